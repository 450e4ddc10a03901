import JvmDerived
import JvmDerived.Pilot.@@N@@Statement
import JvmDerived.Pilot.@@N@@Code
set_option linter.unusedVariables false
set_option linter.unusedSimpArgs false
namespace Jvm.Pilot.@@N@@
open Jvm Jvm.ClassFile Sem Op Lib Jvm.Free Jvm.Stand Jvm.LawKit Jvm.RoadKit Bundle Jvm.Pilot.@@N@@.Jvm.D
/-! THE OWN LAYER (printed by own/gen_layer.py): Wp: from this pc, with these locals, this operand stack and these new objects, the body comes to its return and Q holds of what it returns and of the new objects then -/
abbrev OSig := List (String × String × String)
abbrev ObjB := (String × OSig × List Value) ⊕ ((FieldType × List Int32) ⊕ (List Int64 ⊕ (String × FieldType × List Value)))
/-- an object of the walk: true: made by it (it may be written); false: only read -/
abbrev Obj := Bool × ObjB
abbrev oI (C : String) (sg : OSig) (vs : List Value) : Obj := (true, .inl (C, sg, vs))
abbrev oA (ty : FieldType) (xs : List Int32) : Obj := (true, .inr (.inl (ty, xs)))
abbrev oJ (xs : List Int64) : Obj := (true, .inr (.inr (.inl xs)))
abbrev oR (C : String) (ty : FieldType) (vs : List Value) : Obj := (true, .inr (.inr (.inr (C, ty, vs))))
abbrev fI (C : String) (sg : OSig) (vs : List Value) : Obj := (false, .inl (C, sg, vs))
abbrev fA (ty : FieldType) (xs : List Int32) : Obj := (false, .inr (.inl (ty, xs)))
abbrev OH := List (Addr × Obj)
def Slo (Z : State) (sg : OSig) : Prop := sg.Pairwise fun f g => Jvm.RoadKit.slotOf Z f.1 f.2.1 f.2.2 ≠ Jvm.RoadKit.slotOf Z g.1 g.2.1 g.2.2
def OvrT (Z : State) (cA : ClassId) (C : String) (ty : FieldType) : Prop := ∃ (k : Class) (comp : ClassId), Z.vm.classes[cA]? = some k ∧ k.kind = .array comp ty ∧ Z.vm.findClass C = some comp
def Sat (Z : State) (h : Heap) (a : Addr) : ObjB → Prop
  | .inl (C, sg, vs) => Exa Z h a C ∧ Slo Z sg ∧ ∀ (i : Nat) (f : String × String × String) (v : Value), sg[i]? = some f → vs[i]? = some v → Fld Z h a f.1 f.2.1 f.2.2 v
  | .inr (.inl (ty, xs)) => (ty = .byte ∨ Exa Z h a ("[" ++ ty.toString)) ∧ ∃ c : Cell, Arr Z h a c ty ∧ c.slots = (xs.map Value.int).toArray ∧ ∀ x ∈ xs, fits ty (.int x) = true
  | .inr (.inr (.inl xs)) => Exa Z h a "[J" ∧ ∃ c : Cell, Arr Z h a c .long ∧ c.slots = (xs.map Value.long).toArray
  | .inr (.inr (.inr (C, ty, vs))) => Exa Z h a ("[" ++ ty.toString) ∧ ∃ c : Cell, Arr Z h a c ty ∧ OvrT Z c.cls C ty ∧ c.slots = vs.toArray ∧ ∀ v ∈ vs, v.isRef = true
def Hp (Z : State) (h : Heap) (H : OH) : Prop := Ext Z.heap h ∧ (∀ x ∈ H, (x.2.1 = true → Z.heap.size ≤ x.1) ∧ Sat Z h x.1 x.2.2) ∧ H.Pairwise fun x y => (x.2.1 = true ∨ y.2.1 = true) → x.1 ≠ y.1
theorem Sat.ext {Z : State} {h h' : Heap} {a : Addr} (E : Ext h h') : ∀ {o : ObjB}, Sat Z h a o → Sat Z h' a o
  | .inl (C, sg, vs), ⟨h1, h2, h3⟩ => ⟨h1.ext E, h2, fun i f v q r => (h3 i f v q r).ext E⟩
  | .inr (.inl (ty, xs)), ⟨q, c, h1, h2⟩ => ⟨q.imp id (·.ext E), c, h1.ext E, h2⟩
  | .inr (.inr (.inl xs)), ⟨q, c, h1, h2⟩ => ⟨q.ext E, c, h1.ext E, h2⟩
  | .inr (.inr (.inr (C, ty, vs))), ⟨q, c, h1, h2⟩ => ⟨q.ext E, c, h1.ext E, h2⟩
theorem Sat.other {Z : State} {h h' : Heap} {a b : Addr} {sl : Nat} {v : Value} (W : Wr h h' a sl v) (ne : b ≠ a) : ∀ {o : ObjB}, Sat Z h b o → Sat Z h' b o
  | .inl (C, sg, vs), ⟨h1, h2, h3⟩ => ⟨h1.wr W, h2, fun i f v q r => (h3 i f v q r).other W (Or.inl ne)⟩
  | .inr (.inl (ty, xs)), ⟨q, c, h1, h2⟩ => ⟨q.imp id (·.wr W), c, h1.other W ne, h2⟩
  | .inr (.inr (.inl xs)), ⟨q, c, h1, h2⟩ => ⟨q.wr W, c, h1.other W ne, h2⟩
  | .inr (.inr (.inr (C, ty, vs))), ⟨q, c, h1, h2⟩ => ⟨q.wr W, c, h1.other W ne, h2⟩
theorem Sat.lt {Z : State} {h : Heap} {a : Addr} : ∀ {o : ObjB}, Sat Z h a o → a < h.size
  | .inl (C, sg, vs), ⟨h1, h2, h3⟩ => h1.lt
  | .inr (.inl (ty, xs)), ⟨_, c, h1, _⟩ => h1.lt
  | .inr (.inr (.inl xs)), ⟨q, _⟩ => q.lt
  | .inr (.inr (.inr (C, ty, vs))), ⟨q, _⟩ => q.lt
theorem Hp.nil (Z : State) : Hp Z Z.heap [] := ⟨⟨Nat.le_refl _, fun _ _ q => q⟩, (fun _ q => nomatch q), List.Pairwise.nil⟩
theorem ext_trans {h h1 h2 : Heap} (E : Ext h h1) (E' : Ext h1 h2) : Ext h h2 := ⟨Nat.le_trans E.1 E'.1, fun a c q => E'.2 a c (E.2 a c q)⟩
theorem Hp.ext {Z : State} {h h' : Heap} {H : OH} (P : Hp Z h H) (E : Ext h h') : Hp Z h' H := ⟨ext_trans P.1 E, fun x q => ⟨(P.2.1 x q).1, (P.2.1 x q).2.ext E⟩, P.2.2⟩
theorem Hp.cons {Z : State} {h h' : Heap} {H : OH} (P : Hp Z h H) (E : Ext h h') {fl : Bool} {o : ObjB} (S : Sat Z h' h.size o) : Hp Z h' ((h.size, (fl, o)) :: H) :=
  ⟨ext_trans P.1 E, fun x q => (List.mem_cons.mp q).elim (fun e => by subst e; exact ⟨fun _ => P.1.1, S⟩) fun q => ⟨(P.2.1 x q).1, (P.2.1 x q).2.ext E⟩,
    List.Pairwise.cons (fun y q _ e => absurd ((P.2.1 y q).2.lt) (by rw [← e]; exact Nat.lt_irrefl _)) P.2.2⟩
theorem Hp.at {Z : State} {h : Heap} {H : OH} (P : Hp Z h H) {i : Nat} {x : Addr × Obj} (q : H[i]? = some x) : (x.2.1 = true → Z.heap.size ≤ x.1) ∧ Sat Z h x.1 x.2.2 := P.2.1 x (List.mem_of_getElem? q)
theorem Hp.ne {Z : State} {h : Heap} {H : OH} (P : Hp Z h H) {i j : Nat} {x y : Addr × Obj} (q : H[i]? = some x) (r : H[j]? = some y) (ht : x.2.1 = true ∨ y.2.1 = true) (ij : i ≠ j) : x.1 ≠ y.1 := by
  have hP := List.pairwise_iff_getElem.mp P.2.2
  obtain ⟨hi, rfl⟩ := List.getElem?_eq_some_iff.mp q
  obtain ⟨hj, rfl⟩ := List.getElem?_eq_some_iff.mp r
  rcases Nat.lt_or_gt_of_ne ij with u | u
  · exact hP i j hi hj u ht
  · exact fun e => hP j i hj hi u ht.symm e.symm
theorem Hp.set {Z : State} {h h' : Heap} {H : OH} (P : Hp Z h H) {i : Nat} {a : Addr} {o o' : ObjB} (q : H[i]? = some (a, (true, o))) {sl : Nat} {v : Value} (W : Wr h h' a sl v) (S : Sat Z h' a o') : Hp Z h' (H.set i (a, (true, o'))) := by
  have g : Z.heap.size ≤ a := (P.at q).1 rfl
  obtain ⟨hi, hq⟩ := List.getElem?_eq_some_iff.mp q
  refine ⟨⟨by rw [W.size]; exact P.1.1, fun b c r => ?_⟩, fun x hx => ?_, ?_⟩
  · obtain ⟨c', e1, -, -, -, e5, -⟩ := wr_at W (P.1.2 b c r)
    have : b < Z.heap.size := (Array.getElem?_eq_some_iff.mp r).1
    rw [← e5 (by rintro rfl; exact absurd this (Nat.not_lt.mpr g))]; exact e1
  · obtain ⟨n, hn⟩ := List.getElem?_of_mem hx
    rw [List.getElem?_set] at hn
    split at hn
    · have e0 : (a, (true, o')) = x := by simpa [hi] using hn
      subst e0; exact ⟨fun _ => g, S⟩
    · rename_i ne
      exact ⟨(P.at hn).1, (P.at hn).2.other W (P.ne hn q (Or.inr rfl) (Ne.symm ne))⟩
  · have e : (H.set i (a, (true, o'))).map (fun x => (x.1, x.2.1)) = H.map (fun x => (x.1, x.2.1)) := by
      rw [List.map_set]
      refine List.ext_getElem? fun n => ?_
      rw [List.getElem?_set]
      split
      · rename_i e; subst e
        simp [hi, hq]
      · rfl
    have h1 : (H.map (fun x => (x.1, x.2.1))).Pairwise (fun u v => (u.2 = true ∨ v.2 = true) → u.1 ≠ v.1) := List.pairwise_map.mpr P.2.2
    rw [← e] at h1
    exact List.pairwise_map.mp h1
theorem Hp.pick {Z : State} {h : Heap} {H : OH} (P : Hp Z h H) (is : List Nat) (hn : is.Nodup) : Hp Z h (is.filterMap fun i => H[i]?) := by
  refine ⟨P.1, fun x hx => ?_, ?_⟩
  · obtain ⟨i, -, q⟩ := List.mem_filterMap.mp hx
    exact P.at q
  · refine List.pairwise_filterMap.mpr (hn.imp fun {i j} ne x hx y hy ht => P.ne hx hy ht ne)
/-- what an instruction says: its constructor, its length, the next pc -/
def Dc (bytes : ByteArray) (pc : Nat) (i : Instr) (n pc' : Nat) : Prop := decode bytes pc = .ok (i, n) ∧ pc + n = pc'
def Tg (pc : Nat) (o : Int) (pc' : Nat) : Prop := 0 ≤ (pc : Int) + o ∧ ((pc : Int) + o).toNat = pc'
/-- the walk's mode: none: it loads no String constant; some none: it may; some (some Ts): it has loaded these texts and no others -/
abbrev Md := Option (Option (List String))
def MdOk (b : Md) (Z s : State) (vm0 : Vm) : Prop := ∀ Ts, b = some (some Ts) → s.heap = Z.heap ∧ Jvm.RoadKit.IB Z vm0 Ts
def Wp (b : Md) (l : Launch) (Z : State) (own nm : String) (bytes : ByteArray) (maxL : Nat) (ret : Option FieldType) (R : Room) (H : OH) (k j : Nat) (pc : Nat) (Ls : Array Slot) (st : List Value) (Q : Option Value → OH → Prop) : Prop :=
  ∀ (p : Program) (e : Env) (s : State) (vm0 : Vm) (k0 : Nat) (m : MethodId) (args : Array Value) (below : List Frame) (meth : Method) (c : Code) (T : State) (L : List Loc),
    p.tables.exec = Jvm.exec → Z.Warmed39 vm0 → s.Since vm0 k0 → k0 ≤ T.heap.size → c.code = bytes → c.maxLocals = maxL → vm0.findClass own = some m.cls → meth.name = nm → meth.sig.returnType = ret →
    Stand p l e R (s.setVm vm0) m args below meth c T L k j → Fr Z.heap.size L → Hp Z T.heap H → MdOk b Z s vm0 →
    ∃ (T' : State) (v : Option Value) (L' : List Loc) (k' j' : Nat) (vm1 : Vm) (k1 : Nat) (H' : OH),
      (s.Since vm1 k1 ∧ k1 ≤ T'.heap.size ∧ (b = none → vm1 = vm0)) ∧ Stand p l e R (s.setVm vm1) m args below meth c T' L' k' j' ∧ (k' ≤ R.cells ∧ j' ≤ R.slots ∧ T.heap.size ≤ T'.heap.size) ∧ Fr Z.heap.size L' ∧ Hp Z T'.heap H' ∧ (ret = none → v = none) ∧ Q v H' ∧
      ∀ fs, (∀ (f : JFrame) (acts : List Action), f.method = m → f.locked = none → f.entered = [] → (doReturn e (T'.setTop f) acts v).1 = T'.setFrames fs) → Steps p.tables e below (T.setTop (mkF m pc Ls st)) (T'.setFrames fs)
section Own
variable {b : Md} {l : Launch} {Z : State} {a0 : Array Value} {own nm : String} {bytes : ByteArray} {maxL : Nat} {ret : Option FieldType} {R : Room} {H : OH} {k j pc pc' : Nat} {Ls : Array Slot} {st : List Value} {Q : Option Value → OH → Prop}
theorem Wp.stepH
    (hs : ∀ (p : Program) (e : Env) (s : State) (m : MethodId) (args : Array Value) (below : List Frame) (meth : Method) (c : Code) (T : State) (L : List Loc),
      p.tables.exec = Jvm.exec → Z.Warmed39 s.vm → c.code = bytes → c.maxLocals = maxL → s.vm.findClass own = some m.cls → meth.name = nm → meth.sig.returnType = ret →
      Stand p l e R s m args below meth c T L k j → Fr Z.heap.size L → Hp Z T.heap H →
      ∃ (T' : State) (L' : List Loc) (k' j' : Nat) (H' : OH) (pc' : Nat) (Ls' : Array Slot) (st' : List Value), Stand p l e R s m args below meth c T' L' k' j' ∧ T.heap.size ≤ T'.heap.size ∧ Fr Z.heap.size L' ∧ Hp Z T'.heap H' ∧ Wp b l Z own nm bytes maxL ret R H' k' j' pc' Ls' st' Q ∧
        ∀ target, Steps p.tables e below (T'.setTop (mkF m pc' Ls' st')) target → Steps p.tables e below (T.setTop (mkF m pc Ls st)) target) :
    Wp b l Z own nm bytes maxL ret R H k j pc Ls st Q := by
  intro p e s vm0 k0 m args below meth c T L hx hZ hS hk hby hml hown hnm hret X N hH hB
  obtain ⟨T', L', k', j', H', pc', Ls', st', X', hsz, N', hH', hr, stp⟩ := hs p e (s.setVm vm0) m args below meth c T L hx hZ hby hml hown hnm hret X N hH
  obtain ⟨T2, v, L2, k2, j2, vm1, k1, H2, r1, r2, ⟨r3, r4, r5⟩, r6, r7, r8, r9, r10⟩ := hr p e s vm0 k0 m args below meth c T' L' hx hZ hS (Nat.le_trans hk hsz) hby hml hown hnm hret X' N' hH' hB
  exact ⟨T2, v, L2, k2, j2, vm1, k1, H2, r1, r2, ⟨r3, r4, Nat.le_trans hsz r5⟩, r6, r7, r8, r9, fun fs hl => stp _ (r10 fs hl)⟩
theorem Wp.step {Ls' : Array Slot} {st' : List Value}
    (hs : ∀ (p : Program) (e : Env) (s : State) (m : MethodId) (args : Array Value) (below : List Frame) (meth : Method) (c : Code) (T : State) (L : List Loc),
      p.tables.exec = Jvm.exec → Z.Warmed39 s.vm → c.code = bytes → s.vm.findClass own = some m.cls → Stand p l e R s m args below meth c T L k j → Hp Z T.heap H →
        ∀ target, Steps p.tables e below (T.setTop (mkF m pc' Ls' st')) target → Steps p.tables e below (T.setTop (mkF m pc Ls st)) target)
    (hr : Wp b l Z own nm bytes maxL ret R H k j pc' Ls' st' Q) : Wp b l Z own nm bytes maxL ret R H k j pc Ls st Q :=
  Wp.stepH fun p e s m args below meth c T L hx hZ hby hml hown hnm hret X N hH => ⟨T, L, k, j, H, pc', Ls', st', X, Nat.le_refl _, N, hH, hr, hs p e s m args below meth c T L hx hZ hby hown X hH⟩
theorem Wp.know {P : Prop} (hp : ∀ h, Hp Z h H → P) (hr : P → Wp b l Z own nm bytes maxL ret R H k j pc Ls st Q) : Wp b l Z own nm bytes maxL ret R H k j pc Ls st Q :=
  fun p e s vm0 k0 m args below meth c T L hx hZ hS hk hby hml hown hnm hret X N hH hB => hr (hp _ hH) p e s vm0 k0 m args below meth c T L hx hZ hS hk hby hml hown hnm hret X N hH hB
theorem Wp.pick (is : List Nat) (hn : is.Nodup) (hr : Wp b l Z own nm bytes maxL ret R (is.filterMap fun i => H[i]?) k j pc Ls st Q) : Wp b l Z own nm bytes maxL ret R H k j pc Ls st Q :=
  Wp.stepH fun p e s m args below meth c T L hx hZ hby hml hown hnm hret X N hH => ⟨T, L, k, j, _, pc, Ls, st, X, Nat.le_refl _, N, hH.pick is hn, hr, fun _ q => q⟩
theorem Wp.more {k' j' : Nat} (hk : k ≤ k') (hj : j ≤ j') (hr : Wp b l Z own nm bytes maxL ret R H k' j' pc Ls st Q) : Wp b l Z own nm bytes maxL ret R H k j pc Ls st Q :=
  Wp.stepH fun p e s m args below meth c T L hx hZ hby hml hown hnm hret X N hH => ⟨T, L, k', j', H, pc, Ls, st, X.more hk hj, Nat.le_refl _, N, hH, hr, fun _ q => q⟩
theorem Wp.mono {Q' : Option Value → OH → Prop} (hr : Wp b l Z own nm bytes maxL ret R H k j pc Ls st Q') (hq : ∀ v H', Q' v H' → Q v H') : Wp b l Z own nm bytes maxL ret R H k j pc Ls st Q :=
  fun p e s vm0 k0 m args below meth c T L hx hZ hS hk hby hml hown hnm hret X N hH hB => by
    obtain ⟨T2, v, L2, k2, j2, vm1, k1, H2, r1, r2, r3, r6, r7, r8, r9, r10⟩ := hr p e s vm0 k0 m args below meth c T L hx hZ hS hk hby hml hown hnm hret X N hH hB
    exact ⟨T2, v, L2, k2, j2, vm1, k1, H2, r1, r2, r3, r6, r7, r8, hq _ _ r9, r10⟩
theorem wp_iadd {x y : Int32} (hd : Dc bytes pc (.iadd) 1 pc')  (hr : Wp b l Z own nm bytes maxL ret R H k j pc' Ls (.int (x + y) :: st) Q) : Wp b l Z own nm bytes maxL ret R H k j pc Ls (.int y :: .int x :: st) Q := by
  obtain ⟨hd, rfl⟩ := hd
  exact Wp.step (fun p e s m args below meth c T L hx hZ hby hown X hH target ht => XS.iadd X.here hx rfl (hb hby hd) rfl ht) hr
theorem wp_isub {x y : Int32} (hd : Dc bytes pc (.isub) 1 pc')  (hr : Wp b l Z own nm bytes maxL ret R H k j pc' Ls (.int (x - y) :: st) Q) : Wp b l Z own nm bytes maxL ret R H k j pc Ls (.int y :: .int x :: st) Q := by
  obtain ⟨hd, rfl⟩ := hd
  exact Wp.step (fun p e s m args below meth c T L hx hZ hby hown X hH target ht => XS.isub X.here hx rfl (hb hby hd) rfl ht) hr
theorem wp_iand {x y : Int32} (hd : Dc bytes pc (.iand) 1 pc')  (hr : Wp b l Z own nm bytes maxL ret R H k j pc' Ls (.int (x &&& y) :: st) Q) : Wp b l Z own nm bytes maxL ret R H k j pc Ls (.int y :: .int x :: st) Q := by
  obtain ⟨hd, rfl⟩ := hd
  exact Wp.step (fun p e s m args below meth c T L hx hZ hby hown X hH target ht => XS.iand X.here hx rfl (hb hby hd) rfl ht) hr
theorem wp_imul {x y : Int32} (hd : Dc bytes pc (.imul) 1 pc')  (hr : Wp b l Z own nm bytes maxL ret R H k j pc' Ls (.int (x * y) :: st) Q) : Wp b l Z own nm bytes maxL ret R H k j pc Ls (.int y :: .int x :: st) Q := by
  obtain ⟨hd, rfl⟩ := hd
  exact Wp.step (fun p e s m args below meth c T L hx hZ hby hown X hH target ht => XS.imul X.here hx rfl (hb hby hd) rfl ht) hr
theorem wp_ixor {x y : Int32} (hd : Dc bytes pc (.ixor) 1 pc')  (hr : Wp b l Z own nm bytes maxL ret R H k j pc' Ls (.int (x ^^^ y) :: st) Q) : Wp b l Z own nm bytes maxL ret R H k j pc Ls (.int y :: .int x :: st) Q := by
  obtain ⟨hd, rfl⟩ := hd
  exact Wp.step (fun p e s m args below meth c T L hx hZ hby hown X hH target ht => XT.ixor X.here hx rfl (hb hby hd) rfl ht) hr
theorem wp_ior {x y : Int32} (hd : Dc bytes pc (.ior) 1 pc')  (hr : Wp b l Z own nm bytes maxL ret R H k j pc' Ls (.int (x ||| y) :: st) Q) : Wp b l Z own nm bytes maxL ret R H k j pc Ls (.int y :: .int x :: st) Q := by
  obtain ⟨hd, rfl⟩ := hd
  exact Wp.step (fun p e s m args below meth c T L hx hZ hby hown X hH target ht => XT.ior X.here hx rfl (hb hby hd) rfl ht) hr
theorem wp_ishl {x y : Int32} (hd : Dc bytes pc (.ishl) 1 pc')  (hr : Wp b l Z own nm bytes maxL ret R H k j pc' Ls (.int (x <<< (y &&& 31)) :: st) Q) : Wp b l Z own nm bytes maxL ret R H k j pc Ls (.int y :: .int x :: st) Q := by
  obtain ⟨hd, rfl⟩ := hd
  exact Wp.step (fun p e s m args below meth c T L hx hZ hby hown X hH target ht => XT.ishl X.here hx rfl (hb hby hd) rfl ht) hr
theorem wp_ishr {x y : Int32} (hd : Dc bytes pc (.ishr) 1 pc')  (hr : Wp b l Z own nm bytes maxL ret R H k j pc' Ls (.int (x >>> (y &&& 31)) :: st) Q) : Wp b l Z own nm bytes maxL ret R H k j pc Ls (.int y :: .int x :: st) Q := by
  obtain ⟨hd, rfl⟩ := hd
  exact Wp.step (fun p e s m args below meth c T L hx hZ hby hown X hH target ht => XT.ishr X.here hx rfl (hb hby hd) rfl ht) hr
theorem wp_iushr {x y : Int32} (hd : Dc bytes pc (.iushr) 1 pc')  (hr : Wp b l Z own nm bytes maxL ret R H k j pc' Ls (.int (XT.ushr x y) :: st) Q) : Wp b l Z own nm bytes maxL ret R H k j pc Ls (.int y :: .int x :: st) Q := by
  obtain ⟨hd, rfl⟩ := hd
  exact Wp.step (fun p e s m args below meth c T L hx hZ hby hown X hH target ht => XT.iushr X.here hx rfl (hb hby hd) rfl ht) hr
theorem wp_idiv {x y : Int32} (hd : Dc bytes pc (.idiv) 1 pc') (hy : y ≠ 0) (hr : Wp b l Z own nm bytes maxL ret R H k j pc' Ls (.int (x / y) :: st) Q) : Wp b l Z own nm bytes maxL ret R H k j pc Ls (.int y :: .int x :: st) Q := by
  obtain ⟨hd, rfl⟩ := hd
  exact Wp.step (fun p e s m args below meth c T L hx hZ hby hown X hH target ht => XS.idiv X.here hx rfl (hb hby hd) rfl hy ht) hr
theorem wp_irem {x y : Int32} (hd : Dc bytes pc (.irem) 1 pc') (hy : y ≠ 0) (hr : Wp b l Z own nm bytes maxL ret R H k j pc' Ls (.int (x % y) :: st) Q) : Wp b l Z own nm bytes maxL ret R H k j pc Ls (.int y :: .int x :: st) Q := by
  obtain ⟨hd, rfl⟩ := hd
  exact Wp.step (fun p e s m args below meth c T L hx hZ hby hown X hH target ht => iremM X hx rfl (hb hby hd) rfl hy ht) hr
theorem wp_ineg {x : Int32} (hd : Dc bytes pc (.ineg) 1 pc')  (hr : Wp b l Z own nm bytes maxL ret R H k j pc' Ls (.int (-x) :: st) Q) : Wp b l Z own nm bytes maxL ret R H k j pc Ls (.int x :: st) Q := by
  obtain ⟨hd, rfl⟩ := hd
  exact Wp.step (fun p e s m args below meth c T L hx hZ hby hown X hH target ht => XS.ineg X.here hx rfl (hb hby hd) rfl ht) hr
theorem wp_ladd {x y : Int64} (hd : Dc bytes pc (.ladd) 1 pc')  (hr : Wp b l Z own nm bytes maxL ret R H k j pc' Ls (.long (x + y) :: st) Q) : Wp b l Z own nm bytes maxL ret R H k j pc Ls (.long y :: .long x :: st) Q := by
  obtain ⟨hd, rfl⟩ := hd
  exact Wp.step (fun p e s m args below meth c T L hx hZ hby hown X hH target ht => XT.ladd X.here hx rfl (hb hby hd) rfl ht) hr
theorem wp_lsub {x y : Int64} (hd : Dc bytes pc (.lsub) 1 pc')  (hr : Wp b l Z own nm bytes maxL ret R H k j pc' Ls (.long (x - y) :: st) Q) : Wp b l Z own nm bytes maxL ret R H k j pc Ls (.long y :: .long x :: st) Q := by
  obtain ⟨hd, rfl⟩ := hd
  exact Wp.step (fun p e s m args below meth c T L hx hZ hby hown X hH target ht => XT.lsub X.here hx rfl (hb hby hd) rfl ht) hr
theorem wp_lmul {x y : Int64} (hd : Dc bytes pc (.lmul) 1 pc')  (hr : Wp b l Z own nm bytes maxL ret R H k j pc' Ls (.long (x * y) :: st) Q) : Wp b l Z own nm bytes maxL ret R H k j pc Ls (.long y :: .long x :: st) Q := by
  obtain ⟨hd, rfl⟩ := hd
  exact Wp.step (fun p e s m args below meth c T L hx hZ hby hown X hH target ht => XT.lmul X.here hx rfl (hb hby hd) rfl ht) hr
theorem wp_land {x y : Int64} (hd : Dc bytes pc (.land) 1 pc')  (hr : Wp b l Z own nm bytes maxL ret R H k j pc' Ls (.long (x &&& y) :: st) Q) : Wp b l Z own nm bytes maxL ret R H k j pc Ls (.long y :: .long x :: st) Q := by
  obtain ⟨hd, rfl⟩ := hd
  exact Wp.step (fun p e s m args below meth c T L hx hZ hby hown X hH target ht => XT.land X.here hx rfl (hb hby hd) rfl ht) hr
theorem wp_lor {x y : Int64} (hd : Dc bytes pc (.lor) 1 pc')  (hr : Wp b l Z own nm bytes maxL ret R H k j pc' Ls (.long (x ||| y) :: st) Q) : Wp b l Z own nm bytes maxL ret R H k j pc Ls (.long y :: .long x :: st) Q := by
  obtain ⟨hd, rfl⟩ := hd
  exact Wp.step (fun p e s m args below meth c T L hx hZ hby hown X hH target ht => XT.lor X.here hx rfl (hb hby hd) rfl ht) hr
theorem wp_lxor {x y : Int64} (hd : Dc bytes pc (.lxor) 1 pc')  (hr : Wp b l Z own nm bytes maxL ret R H k j pc' Ls (.long (x ^^^ y) :: st) Q) : Wp b l Z own nm bytes maxL ret R H k j pc Ls (.long y :: .long x :: st) Q := by
  obtain ⟨hd, rfl⟩ := hd
  exact Wp.step (fun p e s m args below meth c T L hx hZ hby hown X hH target ht => XT.lxor X.here hx rfl (hb hby hd) rfl ht) hr
theorem wp_lshl {x : Int64} {y : Int32} (hd : Dc bytes pc (.lshl) 1 pc')  (hr : Wp b l Z own nm bytes maxL ret R H k j pc' Ls (.long (x <<< (y.toInt64 &&& 63)) :: st) Q) : Wp b l Z own nm bytes maxL ret R H k j pc Ls (.int y :: .long x :: st) Q := by
  obtain ⟨hd, rfl⟩ := hd
  exact Wp.step (fun p e s m args below meth c T L hx hZ hby hown X hH target ht => XT.lshl X.here hx rfl (hb hby hd) rfl ht) hr
theorem wp_lshr {x : Int64} {y : Int32} (hd : Dc bytes pc (.lshr) 1 pc')  (hr : Wp b l Z own nm bytes maxL ret R H k j pc' Ls (.long (x >>> (y.toInt64 &&& 63)) :: st) Q) : Wp b l Z own nm bytes maxL ret R H k j pc Ls (.int y :: .long x :: st) Q := by
  obtain ⟨hd, rfl⟩ := hd
  exact Wp.step (fun p e s m args below meth c T L hx hZ hby hown X hH target ht => XT.lshr X.here hx rfl (hb hby hd) rfl ht) hr
theorem wp_lushr {x : Int64} {y : Int32} (hd : Dc bytes pc (.lushr) 1 pc')  (hr : Wp b l Z own nm bytes maxL ret R H k j pc' Ls (.long (XT.ushrL x y) :: st) Q) : Wp b l Z own nm bytes maxL ret R H k j pc Ls (.int y :: .long x :: st) Q := by
  obtain ⟨hd, rfl⟩ := hd
  exact Wp.step (fun p e s m args below meth c T L hx hZ hby hown X hH target ht => XT.lushr X.here hx rfl (hb hby hd) rfl ht) hr
theorem wp_ldiv {x y : Int64} (hd : Dc bytes pc (.ldiv) 1 pc') (hy : y ≠ 0) (hr : Wp b l Z own nm bytes maxL ret R H k j pc' Ls (.long (x / y) :: st) Q) : Wp b l Z own nm bytes maxL ret R H k j pc Ls (.long y :: .long x :: st) Q := by
  obtain ⟨hd, rfl⟩ := hd
  exact Wp.step (fun p e s m args below meth c T L hx hZ hby hown X hH target ht => XT.ldiv X.here hx rfl (hb hby hd) rfl hy ht) hr
theorem wp_lrem {x y : Int64} (hd : Dc bytes pc (.lrem) 1 pc') (hy : y ≠ 0) (hr : Wp b l Z own nm bytes maxL ret R H k j pc' Ls (.long (x - (x / y) * y) :: st) Q) : Wp b l Z own nm bytes maxL ret R H k j pc Ls (.long y :: .long x :: st) Q := by
  obtain ⟨hd, rfl⟩ := hd
  exact Wp.step (fun p e s m args below meth c T L hx hZ hby hown X hH target ht => XT.lrem X.here hx rfl (hb hby hd) rfl hy ht) hr
theorem wp_lneg {x : Int64} (hd : Dc bytes pc (.lneg) 1 pc')  (hr : Wp b l Z own nm bytes maxL ret R H k j pc' Ls (.long (-x) :: st) Q) : Wp b l Z own nm bytes maxL ret R H k j pc Ls (.long x :: st) Q := by
  obtain ⟨hd, rfl⟩ := hd
  exact Wp.step (fun p e s m args below meth c T L hx hZ hby hown X hH target ht => XT.lneg X.here hx rfl (hb hby hd) rfl ht) hr
theorem wp_i2l {x : Int32} (hd : Dc bytes pc (.i2l) 1 pc')  (hr : Wp b l Z own nm bytes maxL ret R H k j pc' Ls (.long x.toInt64 :: st) Q) : Wp b l Z own nm bytes maxL ret R H k j pc Ls (.int x :: st) Q := by
  obtain ⟨hd, rfl⟩ := hd
  exact Wp.step (fun p e s m args below meth c T L hx hZ hby hown X hH target ht => XT.i2l X.here hx rfl (hb hby hd) rfl ht) hr
theorem wp_l2i {x : Int64} (hd : Dc bytes pc (.l2i) 1 pc')  (hr : Wp b l Z own nm bytes maxL ret R H k j pc' Ls (.int x.toInt32 :: st) Q) : Wp b l Z own nm bytes maxL ret R H k j pc Ls (.long x :: st) Q := by
  obtain ⟨hd, rfl⟩ := hd
  exact Wp.step (fun p e s m args below meth c T L hx hZ hby hown X hH target ht => XT.l2i X.here hx rfl (hb hby hd) rfl ht) hr
theorem wp_i2b {x : Int32} (hd : Dc bytes pc (.i2b) 1 pc')  (hr : Wp b l Z own nm bytes maxL ret R H k j pc' Ls (.int x.toInt8.toInt32 :: st) Q) : Wp b l Z own nm bytes maxL ret R H k j pc Ls (.int x :: st) Q := by
  obtain ⟨hd, rfl⟩ := hd
  exact Wp.step (fun p e s m args below meth c T L hx hZ hby hown X hH target ht => XT.i2b X.here hx rfl (hb hby hd) rfl ht) hr
theorem wp_i2c {x : Int32} (hd : Dc bytes pc (.i2c) 1 pc')  (hr : Wp b l Z own nm bytes maxL ret R H k j pc' Ls (.int x.toUInt32.toUInt16.toUInt32.toInt32 :: st) Q) : Wp b l Z own nm bytes maxL ret R H k j pc Ls (.int x :: st) Q := by
  obtain ⟨hd, rfl⟩ := hd
  exact Wp.step (fun p e s m args below meth c T L hx hZ hby hown X hH target ht => XT.i2c X.here hx rfl (hb hby hd) rfl ht) hr
theorem wp_i2s {x : Int32} (hd : Dc bytes pc (.i2s) 1 pc')  (hr : Wp b l Z own nm bytes maxL ret R H k j pc' Ls (.int x.toInt16.toInt32 :: st) Q) : Wp b l Z own nm bytes maxL ret R H k j pc Ls (.int x :: st) Q := by
  obtain ⟨hd, rfl⟩ := hd
  exact Wp.step (fun p e s m args below meth c T L hx hZ hby hown X hH target ht => XT.i2s X.here hx rfl (hb hby hd) rfl ht) hr
theorem wp_lcmp {x y : Int64} (hd : Dc bytes pc (.lcmp) 1 pc')  (hr : Wp b l Z own nm bytes maxL ret R H k j pc' Ls (.int (XT.cmpL x y) :: st) Q) : Wp b l Z own nm bytes maxL ret R H k j pc Ls (.long y :: .long x :: st) Q := by
  obtain ⟨hd, rfl⟩ := hd
  exact Wp.step (fun p e s m args below meth c T L hx hZ hby hown X hH target ht => XT.lcmp X.here hx rfl (hb hby hd) rfl ht) hr
theorem wp_iload_n {n : Fin 4} {v : Int32} (hd : Dc bytes pc (.iload_n n) 1 pc') (hl : Ls[n.val]? = some (.val (.int v))) (hr : Wp b l Z own nm bytes maxL ret R H k j pc' Ls (.int v :: st) Q) : Wp b l Z own nm bytes maxL ret R H k j pc Ls st Q := by
  obtain ⟨hd, rfl⟩ := hd
  exact Wp.step (fun p e s m args below meth c T L hx hZ hby hown X hH target ht => XS.iloadN X.here hx rfl (hb hby hd) hl ht) hr
theorem wp_iload {n : Nat} {v : Int32} (hd : Dc bytes pc (.iload n) 2 pc') (hl : Ls[n]? = some (.val (.int v))) (hr : Wp b l Z own nm bytes maxL ret R H k j pc' Ls (.int v :: st) Q) : Wp b l Z own nm bytes maxL ret R H k j pc Ls st Q := by
  obtain ⟨hd, rfl⟩ := hd
  exact Wp.step (fun p e s m args below meth c T L hx hZ hby hown X hH target ht => XS.iload X.here hx rfl (hb hby hd) hl ht) hr
theorem wp_lload_n {n : Fin 4} {v : Int64} (hd : Dc bytes pc (.lload_n n) 1 pc') (hl : Ls[n.val]? = some (.val (.long v))) (hr : Wp b l Z own nm bytes maxL ret R H k j pc' Ls (.long v :: st) Q) : Wp b l Z own nm bytes maxL ret R H k j pc Ls st Q := by
  obtain ⟨hd, rfl⟩ := hd
  exact Wp.step (fun p e s m args below meth c T L hx hZ hby hown X hH target ht => XT.lloadN X.here hx rfl (hb hby hd) hl ht) hr
theorem wp_lload {n : Nat} {v : Int64} (hd : Dc bytes pc (.lload n) 2 pc') (hl : Ls[n]? = some (.val (.long v))) (hr : Wp b l Z own nm bytes maxL ret R H k j pc' Ls (.long v :: st) Q) : Wp b l Z own nm bytes maxL ret R H k j pc Ls st Q := by
  obtain ⟨hd, rfl⟩ := hd
  exact Wp.step (fun p e s m args below meth c T L hx hZ hby hown X hH target ht => XT.lload X.here hx rfl (hb hby hd) hl ht) hr
theorem wp_aload_n {n : Fin 4} {v : Value} (hd : Dc bytes pc (.aload_n n) 1 pc') (hl : Ls[n.val]? = some (.val v)) (hv : v.isRef = true) (hr : Wp b l Z own nm bytes maxL ret R H k j pc' Ls (v :: st) Q) : Wp b l Z own nm bytes maxL ret R H k j pc Ls st Q := by
  obtain ⟨hd, rfl⟩ := hd
  exact Wp.step (fun p e s m args below meth c T L hx hZ hby hown X hH target ht => XS.aloadN X.here hx rfl (hb hby hd) hl hv ht) hr
theorem wp_aload {n : Nat} {v : Value} (hd : Dc bytes pc (.aload n) 2 pc') (hl : Ls[n]? = some (.val v)) (hv : v.isRef = true) (hr : Wp b l Z own nm bytes maxL ret R H k j pc' Ls (v :: st) Q) : Wp b l Z own nm bytes maxL ret R H k j pc Ls st Q := by
  obtain ⟨hd, rfl⟩ := hd
  exact Wp.step (fun p e s m args below meth c T L hx hZ hby hown X hH target ht => XS.aload X.here hx rfl (hb hby hd) hl hv ht) hr
theorem wp_istore_n {n : Fin 4} {x : Int32} (Ls' : Array Slot) (hd : Dc bytes pc (.istore_n n) 1 pc') (hl : storeLocals Ls n.val (.int x) = some Ls') (hr : Wp b l Z own nm bytes maxL ret R H k j pc' Ls' st Q) : Wp b l Z own nm bytes maxL ret R H k j pc Ls (.int x :: st) Q := by
  obtain ⟨hd, rfl⟩ := hd
  exact Wp.step (fun p e s m args below meth c T L hx hZ hby hown X hH target ht => XS.istoreN X.here hx rfl (hb hby hd) rfl hl ht) hr
theorem wp_istore {n : Nat} {x : Int32} (Ls' : Array Slot) (hd : Dc bytes pc (.istore n) 2 pc') (hl : storeLocals Ls n (.int x) = some Ls') (hr : Wp b l Z own nm bytes maxL ret R H k j pc' Ls' st Q) : Wp b l Z own nm bytes maxL ret R H k j pc Ls (.int x :: st) Q := by
  obtain ⟨hd, rfl⟩ := hd
  exact Wp.step (fun p e s m args below meth c T L hx hZ hby hown X hH target ht => XS.istore X.here hx rfl (hb hby hd) rfl hl ht) hr
theorem wp_lstore_n {n : Fin 4} {x : Int64} (Ls' : Array Slot) (hd : Dc bytes pc (.lstore_n n) 1 pc') (hl : storeLocals Ls n.val (.long x) = some Ls') (hr : Wp b l Z own nm bytes maxL ret R H k j pc' Ls' st Q) : Wp b l Z own nm bytes maxL ret R H k j pc Ls (.long x :: st) Q := by
  obtain ⟨hd, rfl⟩ := hd
  exact Wp.step (fun p e s m args below meth c T L hx hZ hby hown X hH target ht => XT.lstoreN X.here hx rfl (hb hby hd) rfl hl ht) hr
theorem wp_lstore {n : Nat} {x : Int64} (Ls' : Array Slot) (hd : Dc bytes pc (.lstore n) 2 pc') (hl : storeLocals Ls n (.long x) = some Ls') (hr : Wp b l Z own nm bytes maxL ret R H k j pc' Ls' st Q) : Wp b l Z own nm bytes maxL ret R H k j pc Ls (.long x :: st) Q := by
  obtain ⟨hd, rfl⟩ := hd
  exact Wp.step (fun p e s m args below meth c T L hx hZ hby hown X hH target ht => XT.lstore X.here hx rfl (hb hby hd) rfl hl ht) hr
theorem wp_astore_n {n : Fin 4} {x : Value} (Ls' : Array Slot) (hd : Dc bytes pc (.astore_n n) 1 pc') (hv : x.isRef = true) (hl : storeLocals Ls n.val x = some Ls') (hr : Wp b l Z own nm bytes maxL ret R H k j pc' Ls' st Q) : Wp b l Z own nm bytes maxL ret R H k j pc Ls (x :: st) Q := by
  obtain ⟨hd, rfl⟩ := hd
  exact Wp.step (fun p e s m args below meth c T L hx hZ hby hown X hH target ht => XS.astoreN X.here hx rfl (hb hby hd) rfl hv hl ht) hr
theorem wp_astore {n : Nat} {x : Value} (Ls' : Array Slot) (hd : Dc bytes pc (.astore n) 2 pc') (hv : x.isRef = true) (hl : storeLocals Ls n x = some Ls') (hr : Wp b l Z own nm bytes maxL ret R H k j pc' Ls' st Q) : Wp b l Z own nm bytes maxL ret R H k j pc Ls (x :: st) Q := by
  obtain ⟨hd, rfl⟩ := hd
  exact Wp.step (fun p e s m args below meth c T L hx hZ hby hown X hH target ht => XS.astore X.here hx rfl (hb hby hd) rfl hv hl ht) hr
theorem wp_iinc {n : Nat} {c : Int} {x : Int32} (v : Int32) (Ls' : Array Slot) (hd : Dc bytes pc (.iinc n c) 3 pc') (hv : Int32.ofInt c = v) (hl : Ls[n]? = some (.val (.int x))) (hl' : storeLocals Ls n (.int (x + v)) = some Ls') (hr : Wp b l Z own nm bytes maxL ret R H k j pc' Ls' st Q) : Wp b l Z own nm bytes maxL ret R H k j pc Ls st Q := by
  obtain ⟨hd, rfl⟩ := hd
  exact Wp.step (fun p e s m args below meth c T L hx hZ hby hown X hH target ht => XT.iincV X.here hx rfl v (hb hby hd) hv hl hl' ht) hr
theorem wp_iconst {i : Int} (v : Int32) (hd : Dc bytes pc (.iconst i) 1 pc') (hv : Int32.ofInt i = v) (hr : Wp b l Z own nm bytes maxL ret R H k j pc' Ls (.int v :: st) Q) : Wp b l Z own nm bytes maxL ret R H k j pc Ls st Q := by
  obtain ⟨hd, rfl⟩ := hd
  exact Wp.step (fun p e s m args below meth c T L hx hZ hby hown X hH target ht => XT.iconstV X.here hx rfl v (hb hby hd) hv ht) hr
theorem wp_bipush {i : Int} (v : Int32) (hd : Dc bytes pc (.bipush i) 2 pc') (hv : (Int8.ofInt i).toInt32 = v) (hr : Wp b l Z own nm bytes maxL ret R H k j pc' Ls (.int v :: st) Q) : Wp b l Z own nm bytes maxL ret R H k j pc Ls st Q := by
  obtain ⟨hd, rfl⟩ := hd
  exact Wp.step (fun p e s m args below meth c T L hx hZ hby hown X hH target ht => XT.bipushV X.here hx rfl v (hb hby hd) hv ht) hr
theorem wp_sipush {i : Int} (v : Int32) (hd : Dc bytes pc (.sipush i) 3 pc') (hv : (Int16.ofInt i).toInt32 = v) (hr : Wp b l Z own nm bytes maxL ret R H k j pc' Ls (.int v :: st) Q) : Wp b l Z own nm bytes maxL ret R H k j pc Ls st Q := by
  obtain ⟨hd, rfl⟩ := hd
  exact Wp.step (fun p e s m args below meth c T L hx hZ hby hown X hH target ht => XT.sipushV X.here hx rfl v (hb hby hd) hv ht) hr
theorem wp_lconst {i : Fin 2} (v : Int64) (hd : Dc bytes pc (.lconst i) 1 pc') (hv : Int64.ofNat i = v) (hr : Wp b l Z own nm bytes maxL ret R H k j pc' Ls (.long v :: st) Q) : Wp b l Z own nm bytes maxL ret R H k j pc Ls st Q := by
  obtain ⟨hd, rfl⟩ := hd
  exact Wp.step (fun p e s m args below meth c T L hx hZ hby hown X hH target ht => XT.lconstV X.here hx rfl v (hb hby hd) hv ht) hr
theorem wp_aconst_null  (hd : Dc bytes pc (.aconst_null) 1 pc')  (hr : Wp b l Z own nm bytes maxL ret R H k j pc' Ls (.null :: st) Q) : Wp b l Z own nm bytes maxL ret R H k j pc Ls st Q := by
  obtain ⟨hd, rfl⟩ := hd
  exact Wp.step (fun p e s m args below meth c T L hx hZ hby hown X hH target ht => XS.aconstNull X.here hx rfl (hb hby hd)  ht) hr
theorem wp_dup {x : Value} (hd : Dc bytes pc (.dup) 1 pc') (hc : x.category = 1) (hr : Wp b l Z own nm bytes maxL ret R H k j pc' Ls (x :: x :: st) Q) : Wp b l Z own nm bytes maxL ret R H k j pc Ls (x :: st) Q := by
  obtain ⟨hd, rfl⟩ := hd
  exact Wp.step (fun p e s m args below meth c T L hx hZ hby hown X hH target ht => XS.dup X.here hx rfl (hb hby hd) rfl hc ht) hr
theorem wp_pop {x : Value} (hd : Dc bytes pc (.pop) 1 pc') (hc : x.category = 1) (hr : Wp b l Z own nm bytes maxL ret R H k j pc' Ls st Q) : Wp b l Z own nm bytes maxL ret R H k j pc Ls (x :: st) Q := by
  obtain ⟨hd, rfl⟩ := hd
  exact Wp.step (fun p e s m args below meth c T L hx hZ hby hown X hH target ht => XT.pop X.here hx rfl (hb hby hd) rfl hc ht) hr
theorem wp_dup_x1 {x y : Value} (hd : Dc bytes pc (.dup_x1) 1 pc') (hc : x.category = 1) (hc' : y.category = 1) (hr : Wp b l Z own nm bytes maxL ret R H k j pc' Ls (x :: y :: x :: st) Q) : Wp b l Z own nm bytes maxL ret R H k j pc Ls (x :: y :: st) Q := by
  obtain ⟨hd, rfl⟩ := hd
  exact Wp.step (fun p e s m args below meth c T L hx hZ hby hown X hH target ht => XT.dupX1 X.here hx rfl (hb hby hd) rfl hc hc' ht) hr
theorem wp_dup2 {x y : Value} (hd : Dc bytes pc (.dup2) 1 pc') (hc : x.category = 1) (hc' : y.category = 1) (hr : Wp b l Z own nm bytes maxL ret R H k j pc' Ls (x :: y :: x :: y :: st) Q) : Wp b l Z own nm bytes maxL ret R H k j pc Ls (x :: y :: st) Q := by
  obtain ⟨hd, rfl⟩ := hd
  exact Wp.step (fun p e s m args below meth c T L hx hZ hby hown X hH target ht => XT.dup2 X.here hx rfl (hb hby hd) rfl hc hc' ht) hr
theorem wp_dup2L {x : Int64} (hd : Dc bytes pc (.dup2) 1 pc')  (hr : Wp b l Z own nm bytes maxL ret R H k j pc' Ls (.long x :: .long x :: st) Q) : Wp b l Z own nm bytes maxL ret R H k j pc Ls (.long x :: st) Q := by
  obtain ⟨hd, rfl⟩ := hd
  exact Wp.step (fun p e s m args below meth c T L hx hZ hby hown X hH target ht => XT.dup2L X.here hx rfl (hb hby hd) rfl ht) hr
theorem wp_ldcI {i : Nat} {v : Int32} (hd : Dc bytes pc (.ldc i) 2 pc') (w : (Cond.constant own i v).before a0 Z = true) (hr : Wp b l Z own nm bytes maxL ret R H k j pc' Ls (.int v :: st) Q) : Wp b l Z own nm bytes maxL ret R H k j pc Ls st Q := by
  obtain ⟨hd, rfl⟩ := hd
  exact Wp.step (fun p e s m args below meth c T L hx hZ hby hown X hH target ht => Jvm.Stand.ldcI X hx hown (mvT hZ w) rfl (hb hby hd) ht) hr
theorem wp_ldcWI {i : Nat} {v : Int32} (hd : Dc bytes pc (.ldc_w i) 3 pc') (w : (Cond.constant own i v).before a0 Z = true) (hr : Wp b l Z own nm bytes maxL ret R H k j pc' Ls (.int v :: st) Q) : Wp b l Z own nm bytes maxL ret R H k j pc Ls st Q := by
  obtain ⟨hd, rfl⟩ := hd
  exact Wp.step (fun p e s m args below meth c T L hx hZ hby hown X hH target ht => Jvm.Stand.ldcWI X hx hown (mvT hZ w) rfl (hb hby hd) ht) hr
theorem wp_ldc2J {i : Nat} {v : Int64} (hd : Dc bytes pc (.ldc2_w i) 3 pc') (w : (Cond.constantLong own i v).before a0 Z = true) (hr : Wp b l Z own nm bytes maxL ret R H k j pc' Ls (.long v :: st) Q) : Wp b l Z own nm bytes maxL ret R H k j pc Ls st Q := by
  obtain ⟨hd, rfl⟩ := hd
  exact Wp.step (fun p e s m args below meth c T L hx hZ hby hown X hH target ht => Jvm.Stand.ldc2J X hx hown (mvT hZ w) rfl (hb hby hd) ht) hr
theorem wp_instNull {i : Nat} (hd : Dc bytes pc (.instanceof i) 3 pc')  (hr : Wp b l Z own nm bytes maxL ret R H k j pc' Ls (.int 0 :: st) Q) : Wp b l Z own nm bytes maxL ret R H k j pc Ls (.null :: st) Q := by
  obtain ⟨hd, rfl⟩ := hd
  exact Wp.step (fun p e s m args below meth c T L hx hZ hby hown X hH target ht => X.instanceofNull hx (g := mkF m pc Ls (.null :: st)) rfl rfl (hb hby hd) _ ht) hr
theorem wp_castNull {i : Nat} (hd : Dc bytes pc (.checkcast i) 3 pc')  (hr : Wp b l Z own nm bytes maxL ret R H k j pc' Ls (.null :: st) Q) : Wp b l Z own nm bytes maxL ret R H k j pc Ls (.null :: st) Q := by
  obtain ⟨hd, rfl⟩ := hd
  exact Wp.step (fun p e s m args below meth c T L hx hZ hby hown X hH target ht => X.checkcastNull hx (g := mkF m pc Ls (.null :: st)) rfl rfl (hb hby hd) _ ht) hr
theorem wp_goto {o : Int} {n pc'' : Nat} (hd : Dc bytes pc (.goto o) 3 n) (ht : Tg pc o pc'') (hr : Wp b l Z own nm bytes maxL ret R H k j pc'' Ls st Q) : Wp b l Z own nm bytes maxL ret R H k j pc Ls st Q :=
  Wp.step (fun p e s m args below meth c T L hx hZ hby hown X hH target h => XS.goto X.here hx rfl rfl (hb hby hd.1) ht.1 ht.2 h) hr
theorem wp_icmp {cd : ClassFile.Cond} {o : Int} {x y : Int32} {pc'' : Nat} (hd : Dc bytes pc (.if_icmp cd o) 3 pc') (ht : Tg pc o pc'') (hy : if_icmp.holds cd x y = true → Wp b l Z own nm bytes maxL ret R H k j pc'' Ls st Q) (hn : if_icmp.holds cd x y = false → Wp b l Z own nm bytes maxL ret R H k j pc' Ls st Q) : Wp b l Z own nm bytes maxL ret R H k j pc Ls (.int y :: .int x :: st) Q := by
  obtain ⟨hd, rfl⟩ := hd
  cases hc : if_icmp.holds cd x y with
  | true => exact Wp.step (fun p e s m args below meth c T L hx hZ hby hown X hH target h => XS.icmpYes X.here hx rfl rfl (hb hby hd) rfl hc ht.1 ht.2 h) (hy hc)
  | false => exact Wp.step (fun p e s m args below meth c T L hx hZ hby hown X hH target h => XS.icmpNo X.here hx rfl (hb hby hd) rfl hc h) (hn hc)
theorem wp_if {cd : ClassFile.Cond} {o : Int} {x : Int32} {pc'' : Nat} (hd : Dc bytes pc (.ifCond cd o) 3 pc') (ht : Tg pc o pc'') (hy : ifCond.holds cd x = true → Wp b l Z own nm bytes maxL ret R H k j pc'' Ls st Q) (hn : ifCond.holds cd x = false → Wp b l Z own nm bytes maxL ret R H k j pc' Ls st Q) : Wp b l Z own nm bytes maxL ret R H k j pc Ls (.int x :: st) Q := by
  obtain ⟨hd, rfl⟩ := hd
  cases hc : ifCond.holds cd x with
  | true => exact Wp.step (fun p e s m args below meth c T L hx hZ hby hown X hH target h => XS.ifYes X.here hx rfl rfl (hb hby hd) rfl hc ht.1 ht.2 h) (hy hc)
  | false => exact Wp.step (fun p e s m args below meth c T L hx hZ hby hown X hH target h => XS.ifNo X.here hx rfl (hb hby hd) rfl hc h) (hn hc)
theorem icmp_holds (cd : ClassFile.Cond) (x y : Int32) : (if_icmp.holds .eq x y = decide (x = y)) ∧ (if_icmp.holds .ne x y = !decide (x = y)) ∧ (if_icmp.holds .lt x y = decide (x < y)) ∧ (if_icmp.holds .ge x y = !decide (x < y)) ∧ (if_icmp.holds .gt x y = decide (y < x)) ∧ (if_icmp.holds .le x y = !decide (y < x)) := by
  refine ⟨?_, ?_, ?_, ?_, ?_, ?_⟩
  · by_cases h : x = y <;> simp [h, if_icmp.holds]
  · by_cases h : x = y <;> simp [h, if_icmp.holds]
  · by_cases h : x < y <;> simp [h, if_icmp.holds]
  · by_cases h : x < y
    · simp [h, (tlt h).2.1]
    · simp [h, (flt h).2.1]
  · by_cases h : y < x
    · simp [h, (tlt h).2.2.1]
    · simp [h, (flt h).2.2.1]
  · by_cases h : y < x
    · simp [h, (tlt h).2.2.2]
    · simp [h, (flt h).2.2.2]
theorem wp_icmp_eq {o : Int} {x y : Int32} {pc'' : Nat} (hd : Dc bytes pc (.if_icmp .eq o) 3 pc') (ht : Tg pc o pc'') (hy : x = y → Wp b l Z own nm bytes maxL ret R H k j pc'' Ls st Q) (hn : ¬ x = y → Wp b l Z own nm bytes maxL ret R H k j pc' Ls st Q) : Wp b l Z own nm bytes maxL ret R H k j pc Ls (.int y :: .int x :: st) Q :=
  wp_icmp hd ht (fun h => hy (by rw [(icmp_holds .eq x y).1] at h; simpa using h)) (fun h => hn (by rw [(icmp_holds .eq x y).1] at h; simpa using h))
theorem wp_if_eq {o : Int} {x : Int32} {pc'' : Nat} (hd : Dc bytes pc (.ifCond .eq o) 3 pc') (ht : Tg pc o pc'') (hy : x = 0 → Wp b l Z own nm bytes maxL ret R H k j pc'' Ls st Q) (hn : ¬ x = 0 → Wp b l Z own nm bytes maxL ret R H k j pc' Ls st Q) : Wp b l Z own nm bytes maxL ret R H k j pc Ls (.int x :: st) Q :=
  wp_if hd ht (fun h => hy (by rw [if0, (icmp_holds .eq x 0).1] at h; simpa using h)) (fun h => hn (by rw [if0, (icmp_holds .eq x 0).1] at h; simpa using h))
theorem wp_icmp_ne {o : Int} {x y : Int32} {pc'' : Nat} (hd : Dc bytes pc (.if_icmp .ne o) 3 pc') (ht : Tg pc o pc'') (hy : ¬ x = y → Wp b l Z own nm bytes maxL ret R H k j pc'' Ls st Q) (hn : x = y → Wp b l Z own nm bytes maxL ret R H k j pc' Ls st Q) : Wp b l Z own nm bytes maxL ret R H k j pc Ls (.int y :: .int x :: st) Q :=
  wp_icmp hd ht (fun h => hy (by rw [(icmp_holds .eq x y).2.1] at h; simpa using h)) (fun h => hn (by rw [(icmp_holds .eq x y).2.1] at h; simpa using h))
theorem wp_if_ne {o : Int} {x : Int32} {pc'' : Nat} (hd : Dc bytes pc (.ifCond .ne o) 3 pc') (ht : Tg pc o pc'') (hy : ¬ x = 0 → Wp b l Z own nm bytes maxL ret R H k j pc'' Ls st Q) (hn : x = 0 → Wp b l Z own nm bytes maxL ret R H k j pc' Ls st Q) : Wp b l Z own nm bytes maxL ret R H k j pc Ls (.int x :: st) Q :=
  wp_if hd ht (fun h => hy (by rw [if0, (icmp_holds .eq x 0).2.1] at h; simpa using h)) (fun h => hn (by rw [if0, (icmp_holds .eq x 0).2.1] at h; simpa using h))
theorem wp_icmp_lt {o : Int} {x y : Int32} {pc'' : Nat} (hd : Dc bytes pc (.if_icmp .lt o) 3 pc') (ht : Tg pc o pc'') (hy : x < y → Wp b l Z own nm bytes maxL ret R H k j pc'' Ls st Q) (hn : ¬ x < y → Wp b l Z own nm bytes maxL ret R H k j pc' Ls st Q) : Wp b l Z own nm bytes maxL ret R H k j pc Ls (.int y :: .int x :: st) Q :=
  wp_icmp hd ht (fun h => hy (by rw [(icmp_holds .eq x y).2.2.1] at h; simpa using h)) (fun h => hn (by rw [(icmp_holds .eq x y).2.2.1] at h; simpa using h))
theorem wp_if_lt {o : Int} {x : Int32} {pc'' : Nat} (hd : Dc bytes pc (.ifCond .lt o) 3 pc') (ht : Tg pc o pc'') (hy : x < 0 → Wp b l Z own nm bytes maxL ret R H k j pc'' Ls st Q) (hn : ¬ x < 0 → Wp b l Z own nm bytes maxL ret R H k j pc' Ls st Q) : Wp b l Z own nm bytes maxL ret R H k j pc Ls (.int x :: st) Q :=
  wp_if hd ht (fun h => hy (by rw [if0, (icmp_holds .eq x 0).2.2.1] at h; simpa using h)) (fun h => hn (by rw [if0, (icmp_holds .eq x 0).2.2.1] at h; simpa using h))
theorem wp_icmp_ge {o : Int} {x y : Int32} {pc'' : Nat} (hd : Dc bytes pc (.if_icmp .ge o) 3 pc') (ht : Tg pc o pc'') (hy : ¬ x < y → Wp b l Z own nm bytes maxL ret R H k j pc'' Ls st Q) (hn : x < y → Wp b l Z own nm bytes maxL ret R H k j pc' Ls st Q) : Wp b l Z own nm bytes maxL ret R H k j pc Ls (.int y :: .int x :: st) Q :=
  wp_icmp hd ht (fun h => hy (by rw [(icmp_holds .eq x y).2.2.2.1] at h; simpa using h)) (fun h => hn (by rw [(icmp_holds .eq x y).2.2.2.1] at h; simpa using h))
theorem wp_if_ge {o : Int} {x : Int32} {pc'' : Nat} (hd : Dc bytes pc (.ifCond .ge o) 3 pc') (ht : Tg pc o pc'') (hy : ¬ x < 0 → Wp b l Z own nm bytes maxL ret R H k j pc'' Ls st Q) (hn : x < 0 → Wp b l Z own nm bytes maxL ret R H k j pc' Ls st Q) : Wp b l Z own nm bytes maxL ret R H k j pc Ls (.int x :: st) Q :=
  wp_if hd ht (fun h => hy (by rw [if0, (icmp_holds .eq x 0).2.2.2.1] at h; simpa using h)) (fun h => hn (by rw [if0, (icmp_holds .eq x 0).2.2.2.1] at h; simpa using h))
theorem wp_icmp_gt {o : Int} {x y : Int32} {pc'' : Nat} (hd : Dc bytes pc (.if_icmp .gt o) 3 pc') (ht : Tg pc o pc'') (hy : y < x → Wp b l Z own nm bytes maxL ret R H k j pc'' Ls st Q) (hn : ¬ y < x → Wp b l Z own nm bytes maxL ret R H k j pc' Ls st Q) : Wp b l Z own nm bytes maxL ret R H k j pc Ls (.int y :: .int x :: st) Q :=
  wp_icmp hd ht (fun h => hy (by rw [(icmp_holds .eq x y).2.2.2.2.1] at h; simpa using h)) (fun h => hn (by rw [(icmp_holds .eq x y).2.2.2.2.1] at h; simpa using h))
theorem wp_if_gt {o : Int} {x : Int32} {pc'' : Nat} (hd : Dc bytes pc (.ifCond .gt o) 3 pc') (ht : Tg pc o pc'') (hy : 0 < x → Wp b l Z own nm bytes maxL ret R H k j pc'' Ls st Q) (hn : ¬ 0 < x → Wp b l Z own nm bytes maxL ret R H k j pc' Ls st Q) : Wp b l Z own nm bytes maxL ret R H k j pc Ls (.int x :: st) Q :=
  wp_if hd ht (fun h => hy (by rw [if0, (icmp_holds .eq x 0).2.2.2.2.1] at h; simpa using h)) (fun h => hn (by rw [if0, (icmp_holds .eq x 0).2.2.2.2.1] at h; simpa using h))
theorem wp_icmp_le {o : Int} {x y : Int32} {pc'' : Nat} (hd : Dc bytes pc (.if_icmp .le o) 3 pc') (ht : Tg pc o pc'') (hy : ¬ y < x → Wp b l Z own nm bytes maxL ret R H k j pc'' Ls st Q) (hn : y < x → Wp b l Z own nm bytes maxL ret R H k j pc' Ls st Q) : Wp b l Z own nm bytes maxL ret R H k j pc Ls (.int y :: .int x :: st) Q :=
  wp_icmp hd ht (fun h => hy (by rw [(icmp_holds .eq x y).2.2.2.2.2] at h; simpa using h)) (fun h => hn (by rw [(icmp_holds .eq x y).2.2.2.2.2] at h; simpa using h))
theorem wp_if_le {o : Int} {x : Int32} {pc'' : Nat} (hd : Dc bytes pc (.ifCond .le o) 3 pc') (ht : Tg pc o pc'') (hy : ¬ 0 < x → Wp b l Z own nm bytes maxL ret R H k j pc'' Ls st Q) (hn : 0 < x → Wp b l Z own nm bytes maxL ret R H k j pc' Ls st Q) : Wp b l Z own nm bytes maxL ret R H k j pc Ls (.int x :: st) Q :=
  wp_if hd ht (fun h => hy (by rw [if0, (icmp_holds .eq x 0).2.2.2.2.2] at h; simpa using h)) (fun h => hn (by rw [if0, (icmp_holds .eq x 0).2.2.2.2.2] at h; simpa using h))
theorem cmpL_0 (x y : Int64) : (XT.cmpL x y = 0 ↔ x = y) ∧ (XT.cmpL x y < 0 ↔ x < y) ∧ (0 < XT.cmpL x y ↔ y < x) := by
  unfold XT.cmpL
  by_cases h1 : y < x
  · have h2 : ¬ x = y := by rintro rfl; exact absurd h1 (by simp [Int64.lt_iff_toInt_lt])
    have h3 : ¬ x < y := by rw [Int64.lt_iff_toInt_lt] at h1 ⊢; omega
    simp [h1, h2, h3]
  · by_cases h2 : x = y
    · subst h2; simp [Int64.lt_iff_toInt_lt]
    · have h3 : x < y := by rw [Int64.lt_iff_toInt_lt] at h1 ⊢; have := mt Int64.toInt_inj.mp h2; omega
      simp [h1, h2, h3]
theorem wp_lcmp_eq {o : Int} {x y : Int64} {pc1 pc'' : Nat} (hd0 : Dc bytes pc .lcmp 1 pc1) (hd : Dc bytes pc1 (.ifCond .eq o) 3 pc') (ht : Tg pc1 o pc'') (hy : x = y → Wp b l Z own nm bytes maxL ret R H k j pc'' Ls st Q) (hn : ¬ x = y → Wp b l Z own nm bytes maxL ret R H k j pc' Ls st Q) : Wp b l Z own nm bytes maxL ret R H k j pc Ls (.long y :: .long x :: st) Q :=
  wp_lcmp hd0 (wp_if_eq hd ht (fun h => hy (by rw [(cmpL_0 x y).1] at h; exact h)) (fun h => hn (by rw [(cmpL_0 x y).1] at h; exact h)))
theorem wp_lcmp_ne {o : Int} {x y : Int64} {pc1 pc'' : Nat} (hd0 : Dc bytes pc .lcmp 1 pc1) (hd : Dc bytes pc1 (.ifCond .ne o) 3 pc') (ht : Tg pc1 o pc'') (hy : ¬ x = y → Wp b l Z own nm bytes maxL ret R H k j pc'' Ls st Q) (hn : x = y → Wp b l Z own nm bytes maxL ret R H k j pc' Ls st Q) : Wp b l Z own nm bytes maxL ret R H k j pc Ls (.long y :: .long x :: st) Q :=
  wp_lcmp hd0 (wp_if_ne hd ht (fun h => hy (by rw [(cmpL_0 x y).1] at h; exact h)) (fun h => hn (by rw [(cmpL_0 x y).1] at h; exact h)))
theorem wp_lcmp_lt {o : Int} {x y : Int64} {pc1 pc'' : Nat} (hd0 : Dc bytes pc .lcmp 1 pc1) (hd : Dc bytes pc1 (.ifCond .lt o) 3 pc') (ht : Tg pc1 o pc'') (hy : x < y → Wp b l Z own nm bytes maxL ret R H k j pc'' Ls st Q) (hn : ¬ x < y → Wp b l Z own nm bytes maxL ret R H k j pc' Ls st Q) : Wp b l Z own nm bytes maxL ret R H k j pc Ls (.long y :: .long x :: st) Q :=
  wp_lcmp hd0 (wp_if_lt hd ht (fun h => hy (by rw [(cmpL_0 x y).2.1] at h; exact h)) (fun h => hn (by rw [(cmpL_0 x y).2.1] at h; exact h)))
theorem wp_lcmp_ge {o : Int} {x y : Int64} {pc1 pc'' : Nat} (hd0 : Dc bytes pc .lcmp 1 pc1) (hd : Dc bytes pc1 (.ifCond .ge o) 3 pc') (ht : Tg pc1 o pc'') (hy : ¬ x < y → Wp b l Z own nm bytes maxL ret R H k j pc'' Ls st Q) (hn : x < y → Wp b l Z own nm bytes maxL ret R H k j pc' Ls st Q) : Wp b l Z own nm bytes maxL ret R H k j pc Ls (.long y :: .long x :: st) Q :=
  wp_lcmp hd0 (wp_if_ge hd ht (fun h => hy (by rw [(cmpL_0 x y).2.1] at h; exact h)) (fun h => hn (by rw [(cmpL_0 x y).2.1] at h; exact h)))
theorem wp_lcmp_gt {o : Int} {x y : Int64} {pc1 pc'' : Nat} (hd0 : Dc bytes pc .lcmp 1 pc1) (hd : Dc bytes pc1 (.ifCond .gt o) 3 pc') (ht : Tg pc1 o pc'') (hy : y < x → Wp b l Z own nm bytes maxL ret R H k j pc'' Ls st Q) (hn : ¬ y < x → Wp b l Z own nm bytes maxL ret R H k j pc' Ls st Q) : Wp b l Z own nm bytes maxL ret R H k j pc Ls (.long y :: .long x :: st) Q :=
  wp_lcmp hd0 (wp_if_gt hd ht (fun h => hy (by rw [(cmpL_0 x y).2.2] at h; exact h)) (fun h => hn (by rw [(cmpL_0 x y).2.2] at h; exact h)))
theorem wp_lcmp_le {o : Int} {x y : Int64} {pc1 pc'' : Nat} (hd0 : Dc bytes pc .lcmp 1 pc1) (hd : Dc bytes pc1 (.ifCond .le o) 3 pc') (ht : Tg pc1 o pc'') (hy : ¬ y < x → Wp b l Z own nm bytes maxL ret R H k j pc'' Ls st Q) (hn : y < x → Wp b l Z own nm bytes maxL ret R H k j pc' Ls st Q) : Wp b l Z own nm bytes maxL ret R H k j pc Ls (.long y :: .long x :: st) Q :=
  wp_lcmp hd0 (wp_if_le hd ht (fun h => hy (by rw [(cmpL_0 x y).2.2] at h; exact h)) (fun h => hn (by rw [(cmpL_0 x y).2.2] at h; exact h)))
theorem wp_ifnull_y {o : Int} {n pc'' : Nat} (hd : Dc bytes pc (.ifnull o) 3 n) (ht : Tg pc o pc'') (hr : Wp b l Z own nm bytes maxL ret R H k j pc'' Ls st Q) : Wp b l Z own nm bytes maxL ret R H k j pc Ls (.null :: st) Q :=
  Wp.step (fun p e s m args below meth c T L hx hZ hby hown X hH target h => XS.ifnullYes X.here hx rfl rfl (hb hby hd.1) rfl ht.1 ht.2 h) hr
theorem wp_ifnull_n {o : Int} {x : Addr} (hd : Dc bytes pc (.ifnull o) 3 pc') (hr : Wp b l Z own nm bytes maxL ret R H k j pc' Ls st Q) : Wp b l Z own nm bytes maxL ret R H k j pc Ls (.ref x :: st) Q := by
  obtain ⟨hd, rfl⟩ := hd
  exact Wp.step (fun p e s m args below meth c T L hx hZ hby hown X hH target h => XS.ifnullNo X.here hx rfl (hb hby hd) rfl h) hr
theorem wp_ifnonnull_y {o : Int} {x : Addr} {n pc'' : Nat} (hd : Dc bytes pc (.ifnonnull o) 3 n) (ht : Tg pc o pc'') (hr : Wp b l Z own nm bytes maxL ret R H k j pc'' Ls st Q) : Wp b l Z own nm bytes maxL ret R H k j pc Ls (.ref x :: st) Q :=
  Wp.step (fun p e s m args below meth c T L hx hZ hby hown X hH target h => XT.ifnonnullYes X.here hx rfl rfl (hb hby hd.1) rfl ht.1 ht.2 h) hr
theorem wp_ifnonnull_n {o : Int} (hd : Dc bytes pc (.ifnonnull o) 3 pc') (hr : Wp b l Z own nm bytes maxL ret R H k j pc' Ls st Q) : Wp b l Z own nm bytes maxL ret R H k j pc Ls (.null :: st) Q := by
  obtain ⟨hd, rfl⟩ := hd
  exact Wp.step (fun p e s m args below meth c T L hx hZ hby hown X hH target h => XT.ifnonnullNo X.here hx rfl (hb hby hd) rfl h) hr
theorem wp_acmp {cd : ClassFile.ACond} {o : Int} {x y : Value} {pc'' : Nat} (hd : Dc bytes pc (.if_acmp cd o) 3 pc') (ht : Tg pc o pc'') (h1 : x.isRef = true) (h2 : y.isRef = true) (hy : acV cd (decide (x = y)) = true → Wp b l Z own nm bytes maxL ret R H k j pc'' Ls st Q) (hn : acV cd (decide (x = y)) = false → Wp b l Z own nm bytes maxL ret R H k j pc' Ls st Q) : Wp b l Z own nm bytes maxL ret R H k j pc Ls (y :: x :: st) Q := by
  obtain ⟨hd, rfl⟩ := hd
  cases hc : acV cd (decide (x = y)) with
  | true => exact Wp.step (fun p e s m args below meth c T L hx hZ hby hown X hH target h => acmp X hx rfl h1 h2 (pc0 := pc) rfl (hb hby hd) rfl rfl ht.1 (by rw [if_pos hc]; exact ht.2.symm) h) (hy hc)
  | false => exact Wp.step (fun p e s m args below meth c T L hx hZ hby hown X hH target h => acmp X hx rfl h1 h2 (pc0 := pc) rfl (hb hby hd) rfl rfl ht.1 (by rw [hc]; rfl) h) (hn hc)
theorem wp_acmp_eq {o : Int} {x y : Value} {pc'' : Nat} (hd : Dc bytes pc (.if_acmp .eq o) 3 pc') (ht : Tg pc o pc'') (h1 : x.isRef = true) (h2 : y.isRef = true) (hy : x = y → Wp b l Z own nm bytes maxL ret R H k j pc'' Ls st Q) (hn : ¬ x = y → Wp b l Z own nm bytes maxL ret R H k j pc' Ls st Q) : Wp b l Z own nm bytes maxL ret R H k j pc Ls (y :: x :: st) Q :=
  wp_acmp hd ht h1 h2 (fun h => hy (by simpa [acV] using h)) (fun h => hn (by simpa [acV] using h))
theorem wp_acmp_ne {o : Int} {x y : Value} {pc'' : Nat} (hd : Dc bytes pc (.if_acmp .ne o) 3 pc') (ht : Tg pc o pc'') (h1 : x.isRef = true) (h2 : y.isRef = true) (hy : ¬ x = y → Wp b l Z own nm bytes maxL ret R H k j pc'' Ls st Q) (hn : x = y → Wp b l Z own nm bytes maxL ret R H k j pc' Ls st Q) : Wp b l Z own nm bytes maxL ret R H k j pc Ls (y :: x :: st) Q :=
  wp_acmp hd ht h1 h2 (fun h => hy (by simpa [acV] using h)) (fun h => hn (by simpa [acV] using h))
theorem wp_return  (hd : Dc bytes pc .return_ 1 pc') (hr : ret = none) (hk : k ≤ R.cells) (hj : j ≤ R.slots) (hQ : Q none H) : Wp b l Z own nm bytes maxL ret R H k j pc Ls [] Q :=
  fun p e s vm0 k0 m args below meth c T L hx hZ hS hkz hby hml hown hnm hret X N hH hB => ⟨T, none, L, k, j, vm0, k0, H, ⟨hS, hkz, fun _ => rfl⟩, X, ⟨hk, hj, Nat.le_refl _⟩, N, hH, fun h => by first | rfl | (rw [hr] at h; cases h), hQ, fun fs hl => X.returnOut hx (hret.trans hr) (hb hby hd.1) hl⟩
theorem wp_ireturn {x : Int32} (hd : Dc bytes pc .ireturn 1 pc') (hr : ret = some .int) (hk : k ≤ R.cells) (hj : j ≤ R.slots) (hQ : Q (some (.int x)) H) : Wp b l Z own nm bytes maxL ret R H k j pc Ls (.int x :: st) Q :=
  fun p e s vm0 k0 m args below meth c T L hx hZ hS hkz hby hml hown hnm hret X N hH hB => ⟨T, (some (.int x)), L, k, j, vm0, k0, H, ⟨hS, hkz, fun _ => rfl⟩, X, ⟨hk, hj, Nat.le_refl _⟩, N, hH, fun h => by first | rfl | (rw [hr] at h; cases h), hQ, fun fs hl => retOut X hx (hret.trans hr) rfl (Or.inl ⟨rfl, Or.inl rfl, x, rfl⟩) (hb hby hd.1) hl⟩
theorem wp_ireturnN {x : Int32} {t : FieldType} (hd : Dc bytes pc .ireturn 1 pc') (hr : ret = some t) (ht : t = .boolean ∨ t = .byte ∨ t = .char ∨ t = .short) (hk : k ≤ R.cells) (hj : j ≤ R.slots) (hQ : Q (some (.int (nar t x))) H) : Wp b l Z own nm bytes maxL ret R H k j pc Ls (.int x :: st) Q :=
  fun p e s vm0 k0 m args below meth c T L hx hZ hS hkz hby hml hown hnm hret X N hH hB => ⟨T, (some (.int (nar t x))), L, k, j, vm0, k0, H, ⟨hS, hkz, fun _ => rfl⟩, X, ⟨hk, hj, Nat.le_refl _⟩, N, hH, fun h => by first | rfl | (rw [hr] at h; cases h), hQ, fun fs hl => retN X hx (hret.trans hr) ht (hb hby hd.1) hl⟩
theorem wp_lreturn {x : Int64} (hd : Dc bytes pc .lreturn 1 pc') (hr : ret = some .long) (hk : k ≤ R.cells) (hj : j ≤ R.slots) (hQ : Q (some (.long x)) H) : Wp b l Z own nm bytes maxL ret R H k j pc Ls (.long x :: st) Q :=
  fun p e s vm0 k0 m args below meth c T L hx hZ hS hkz hby hml hown hnm hret X N hH hB => ⟨T, (some (.long x)), L, k, j, vm0, k0, H, ⟨hS, hkz, fun _ => rfl⟩, X, ⟨hk, hj, Nat.le_refl _⟩, N, hH, fun h => by first | rfl | (rw [hr] at h; cases h), hQ, fun fs hl => retOut X hx (hret.trans hr) rfl (Or.inr (Or.inl ⟨rfl, rfl, x, rfl⟩)) (hb hby hd.1) hl⟩
theorem wp_areturn {x : Value} {t : FieldType} (hd : Dc bytes pc .areturn 1 pc') (hr : ret = some t) (ht : t.isReference = true) (hn : narrow t x = x) (hv : x.isRef = true) (hk : k ≤ R.cells) (hj : j ≤ R.slots) (hQ : Q (some x) H) : Wp b l Z own nm bytes maxL ret R H k j pc Ls (x :: st) Q :=
  fun p e s vm0 k0 m args below meth c T L hx hZ hS hkz hby hml hown hnm hret X N hH hB => ⟨T, (some x), L, k, j, vm0, k0, H, ⟨hS, hkz, fun _ => rfl⟩, X, ⟨hk, hj, Nat.le_refl _⟩, N, hH, fun h => by first | rfl | (rw [hr] at h; cases h), hQ, fun fs hl => retOut X hx (hret.trans hr) hn (Or.inr (Or.inr (Or.inr (Or.inr ⟨rfl, ht, hv⟩)))) (hb hby hd.1) hl⟩
def FldAt (Z : State) (H : OH) (a : Addr) (O n d : String) (v : Value) : Prop := ∀ h, Hp Z h H → Fld Z h a O n d v
def ExaAt (Z : State) (H : OH) (a : Addr) (C : String) : Prop := ∀ h, Hp Z h H → Exa Z h a C
theorem fld_new {i fi : Nat} {a : Addr} {fl : Bool} {C O n d : String} {sg : OSig} {vs : List Value} {v : Value} (hi : H[i]? = some (a, (fl, .inl (C, sg, vs)))) (hf : sg[fi]? = some (O, n, d)) (hv : vs[fi]? = some v) : FldAt Z H a O n d v := fun h P => (P.at hi).2.2.2 fi _ v hf hv
theorem fld_old {a : Addr} {O n d : String} {v : Value} (F : Fld Z Z.heap a O n d v) : FldAt Z H a O n d v := fun h P => F.ext P.1
theorem exa_new {i : Nat} {a : Addr} {fl : Bool} {C : String} {sg : OSig} {vs : List Value} (hi : H[i]? = some (a, (fl, .inl (C, sg, vs)))) : ExaAt Z H a C := fun h P => (P.at hi).2.1
theorem exa_old {a : Addr} {C : String} (F : Exa Z Z.heap a C) : ExaAt Z H a C := fun h P => F.ext P.1
theorem wp_getfield {a : Addr} {O n d : String} {v : Value} {idx : Nat} (hd : Dc bytes pc (.getfield idx) 3 pc') (w : (Cond.fieldLink own idx O n d).before a0 Z = true) (F : FldAt Z H a O n d v) (hr : Wp b l Z own nm bytes maxL ret R H k j pc' Ls (v :: st) Q) : Wp b l Z own nm bytes maxL ret R H k j pc Ls (.ref a :: st) Q := by
  obtain ⟨hd, rfl⟩ := hd
  refine Wp.stepH fun p e s m args below meth c T L hx hZ hby hml hown hnm hret X N hH => ?_
  obtain ⟨T', X', e', stp⟩ := getF X hx hZ hown (host := "") (Or.inl w) Via.refl rfl (F _ hH) (g := mkF m pc Ls (.ref a :: st)) rfl rfl (hb hby hd)
  exact ⟨T', L, k, j, H, _, Ls, v :: st, X', by rw [e']; exact Nat.le_refl _, N, by rw [e']; exact hH, hr, stp⟩
theorem wp_getfieldVia {a : Addr} {R0 O n d : String} {v : Value} {idx : Nat} (hd : Dc bytes pc (.getfield idx) 3 pc') (w : (Cond.fieldLink own idx R0 n d).before a0 Z = true) (via : Via Z R0 O n d) (F : FldAt Z H a O n d v) (hr : Wp b l Z own nm bytes maxL ret R H k j pc' Ls (v :: st) Q) : Wp b l Z own nm bytes maxL ret R H k j pc Ls (.ref a :: st) Q := by
  obtain ⟨hd, rfl⟩ := hd
  refine Wp.stepH fun p e s m args below meth c T L hx hZ hby hml hown hnm hret X N hH => ?_
  obtain ⟨T', X', e', stp⟩ := getF X hx hZ hown (host := "") (Or.inl w) via rfl (F _ hH) (g := mkF m pc Ls (.ref a :: st)) rfl rfl (hb hby hd)
  exact ⟨T', L, k, j, H, _, Ls, v :: st, X', by rw [e']; exact Nat.le_refl _, N, by rw [e']; exact hH, hr, stp⟩
theorem wp_getstatic {O n d : String} {v : Value} {idx : Nat} (hd : Dc bytes pc (.getstatic idx) 3 pc') (w : (Cond.fieldLink own idx O n d).before a0 Z = true) (F : Sta Z Z.heap O n d v) (hr : Wp b l Z own nm bytes maxL ret R H k j pc' Ls (v :: st) Q) : Wp b l Z own nm bytes maxL ret R H k j pc Ls st Q := by
  obtain ⟨hd, rfl⟩ := hd
  refine Wp.stepH fun p e s m args below meth c T L hx hZ hby hml hown hnm hret X N hH => ?_
  obtain ⟨T', X', e', stp⟩ := getS (host := "") X hx hZ hown w Via.refl rfl (F.ext hH.1) (g := mkF m pc Ls st) rfl (hb hby hd)
  exact ⟨T', L, k, j, H, _, Ls, v :: st, X', by rw [e']; exact Nat.le_refl _, N, by rw [e']; exact hH, hr, stp⟩
theorem Sat.put {h h' : Heap} {a : Addr} {C O n d : String} {sg : OSig} {vs : List Value} {fi : Nat} {v : Value} (S : Sat Z h a (.inl (C, sg, vs))) (hf : sg[fi]? = some (O, n, d)) (W : Wr h h' a (Jvm.RoadKit.slotOf Z O n d) v) : Sat Z h' a (.inl (C, sg, vs.set fi v)) := by
  obtain ⟨S1, S2, S3⟩ := S
  refine ⟨S1.wr W, S2, fun i f u q r => ?_⟩
  rw [List.getElem?_set] at r
  split at r
  · rename_i e; subst e
    split at r
    · rename_i hlt
      cases r
      cases hf.symm.trans q
      exact (S3 fi _ _ hf (List.getElem?_eq_getElem hlt)).same W
    · cases r
  · rename_i ne
    refine (S3 i f u q r).other W (Or.inr ?_)
    have hP := List.pairwise_iff_getElem.mp S2
    obtain ⟨h1, e1⟩ := List.getElem?_eq_some_iff.mp q
    obtain ⟨h2, e2⟩ := List.getElem?_eq_some_iff.mp hf
    rcases Nat.lt_or_gt_of_ne ne with u | u
    · have := hP fi i h2 h1 u; rw [e1, e2] at this; exact Ne.symm this
    · have := hP i fi h1 h2 u; rw [e1, e2] at this; exact this
theorem wp_putfield {i fi kk : Nat} {a : Addr} {C O n d : String} {sg : OSig} {vs : List Value} {v old : Value} {ty : FieldType} {idx : Nat} (hd : Dc bytes pc (.putfield idx) 3 pc') (w : (Cond.fieldLink own idx O n d).before a0 Z = true) (hi : H[i]? = some (a, oI C sg vs)) (hf : sg[fi]? = some (O, n, d)) (ho : vs[fi]? = some old) (L0 : (Cond.lays C O n d).before a0 Z = true ∨ ((Cond.laysFinal C O n d).before a0 Z = true ∧ own = O ∧ nm = "<init>")) (wi : (Cond.instantiable C kk).before a0 Z = true) (hty : parseFieldDescriptor d = some ty) (hn : narrow ty v = v) (hfit : fits ty v = true) (hr : Wp b l Z own nm bytes maxL ret R (H.set i (a, oI C sg (vs.set fi v))) k j pc' Ls st Q) : Wp b l Z own nm bytes maxL ret R H k j pc Ls (v :: .ref a :: st) Q := by
  obtain ⟨hd, rfl⟩ := hd
  refine Wp.stepH fun p e s m args below meth c T L hx hZ hby hml hown hnm hret X N hH => ?_
  have S := (hH.at hi).2
  obtain ⟨T', h', X', e', W', stp⟩ := putF X hx hZ hown (host := "") (Or.inl w) Via.refl rfl (S.2.2 fi _ _ hf ho) S.1 (L0.imp id fun q => ⟨q.1, q.2.1, hnm.trans q.2.2⟩) wi hty hn hfit (g := mkF m pc Ls (v :: .ref a :: st)) rfl rfl (hb hby hd)
  subst e'
  exact ⟨T', _, k, j, _, _, Ls, st, X', by rw [W'.size]; exact Nat.le_refl _, Fr.snoc X' N ((hH.at hi).1 rfl), hH.set hi W' (S.put hf W'), hr, stp⟩
def Dfl : OSig → List Value → Prop
  | [], [] => True
  | f :: sg, v :: vs => (∃ ty, parseFieldDescriptor f.2.2 = some ty ∧ defaultValue ty = v) ∧ Dfl sg vs
  | _, _ => False
theorem Dfl.at : ∀ {sg : OSig} {vs : List Value}, Dfl sg vs → ∀ (i : Nat) (f : String × String × String) (v : Value), sg[i]? = some f → vs[i]? = some v → ∃ ty, parseFieldDescriptor f.2.2 = some ty ∧ defaultValue ty = v
  | [], [], _, i, f, v, q, _ => by simp at q
  | f :: sg, v :: vs, D, 0, f', v', q, r => by simp at q r; subst q r; exact D.1
  | f :: sg, v :: vs, D, i + 1, f', v', q, r => D.2.at i f' v' (by simpa using q) (by simpa using r)
  | [], _ :: _, D, _, _, _, _, _ => D.elim
  | _ :: _, [], D, _, _, _, _, _ => D.elim
theorem Dfl.parse : ∀ {sg : OSig} {vs : List Value}, Dfl sg vs → ∀ f ∈ sg, ∃ ty, parseFieldDescriptor f.2.2 = some ty
  | [], [], _, f, q => by simp at q
  | g :: sg, v :: vs, D, f, q => (List.mem_cons.mp q).elim (fun e => by subst e; exact ⟨D.1.choose, D.1.choose_spec.1⟩) (D.2.parse f)
  | [], _ :: _, D, _, _ => D.elim
  | _ :: _, [], D, _, _ => D.elim
theorem slo_of {C : String} {sg : OSig} {vs : List Value} (D : Dfl sg vs) (hL : ∀ f ∈ sg, Laid Z a0 C f.1 f.2.1 f.2.2) (hn : (sg.map fun f => f.2.1).Nodup) : Slo Z sg := by
  have h1 : sg.Pairwise fun f g => f.2.1 ≠ g.2.1 := List.pairwise_map.mp hn
  refine List.Pairwise.imp_of_mem (fun {f g} hf hg ne => ?_) h1
  obtain ⟨t, ht⟩ := D.parse f hf
  obtain ⟨t', ht'⟩ := D.parse g hg
  exact slot_ne (hL f hf) (hL g hg) ne ht ht'
theorem all_nil {α : Type} {P : α → Prop} : ∀ x ∈ ([] : List α), P x := fun _ q => nomatch q
theorem all_cons {α : Type} {P : α → Prop} {y : α} {L : List α} (q : P y) (r : ∀ x ∈ L, P x) : ∀ x ∈ y :: L, P x := fun x z => (List.mem_cons.mp z).elim (fun u => u ▸ q) (r x)
theorem wp_new {C : String} {idx n : Nat} (sg : OSig) (vs : List Value) (hd : Dc bytes pc (.new idx) 3 pc') (w : (Cond.classLink own idx C).before a0 Z = true) (wi : (Cond.instantiable C n).before a0 Z = true) (wz : (Cond.initialized C).before a0 Z = true) (hL : ∀ f ∈ sg, Laid Z a0 C f.1 f.2.1 f.2.2) (hn : (sg.map fun f => f.2.1).Nodup) (D : Dfl sg vs) (hc : k + 1 ≤ R.cells) (hl : j + n ≤ R.slots) (hr : ∀ a, Wp b l Z own nm bytes maxL ret R ((a, oI C sg vs) :: H) (k + 1) (j + n) pc' Ls (.ref a :: st) Q) : Wp b l Z own nm bytes maxL ret R H k j pc Ls st Q := by
  obtain ⟨hd, rfl⟩ := hd
  refine Wp.stepH fun p e s m args below meth c T L hx hZ hby hml hown hnm hret X N hH => ?_
  obtain ⟨T', h', X', e', E', A', D', -, stp⟩ := newO X hx hZ hown w wi wz rfl (g := mkF m pc Ls st) rfl (hb hby hd) hc hl
  subst e'
  refine ⟨T', L, _, _, _, _, Ls, _, X', E'.1, N, hH.cons E' (o := .inl (C, sg, vs)) ⟨A', slo_of D hL hn, fun i f v q r => ?_⟩, hr _, stp⟩
  obtain ⟨ty, t1, t2⟩ := D.at i f v q r
  rw [← t2]
  exact D' (hL f (List.mem_of_getElem? q)) t1
theorem wp_initO {a : Addr} {idx : Nat} (hd : Dc bytes pc (.invokespecial idx) 3 pc') (w1 : (Cond.methodLink own idx Lib.objectInit).before a0 Z = true) (w2 : (Cond.instanceMethod Lib.objectInit).before a0 Z = true) (w3 : (Cond.code Lib.objectInit ⟨#[0xb1]⟩ 1 none).before a0 Z = true) (hsz : Ls.size = maxL) (hf : 1 ≤ R.frames) (hl : (st.map fun v => v.category).sum + 12 ≤ R.locals) (hr : Wp b l Z own nm bytes maxL ret R H k j pc' Ls st Q) : Wp b l Z own nm bytes maxL ret R H k j pc Ls (.ref a :: st) Q := by
  obtain ⟨hd, rfl⟩ := hd
  refine Wp.stepH fun p e s m args below meth c T L hx hZ hby hml hown hnm hret X N hH => ?_
  obtain ⟨T', X', e', stp⟩ := initO X hx hZ hown w1 w2 w3 rfl (g := mkF m pc Ls (.ref a :: st)) rfl (by rw [hml]; exact hsz) rfl (hb hby hd) hf (W := (st.map fun v => v.category).sum) (by show 2 * 0 + _ ≤ _; omega) hl
  exact ⟨T', L, k, j, H, _, Ls, st, X', by rw [e']; exact Nat.le_refl _, N, by rw [e']; exact hH, hr, stp⟩
theorem wp_newarrayI {aty : ArrayType} {ty : FieldType} {n : Int32} (cnt cap : Nat) (hd : Dc bytes pc (.newarray aty) 2 pc') (hty : newarray.typeOf aty = ty) (hdef : defaultValue ty = .int 0) (hfz : fits ty (.int 0) = true) (w : (Cond.arrayClass ty).before a0 Z = true) (hn : ¬ n < 0) (hcnt : n.toNatClampNeg = cnt) (hcap : cnt ≤ cap) (hb8 : cap * 8 ≤ 536870912) (hc : k + 1 ≤ R.cells) (hl : j + cap ≤ R.slots) (hr : ∀ a, Wp b l Z own nm bytes maxL ret R ((a, oA ty (List.replicate cnt 0)) :: H) (k + 1) (j + cap) pc' Ls (.ref a :: st) Q) : Wp b l Z own nm bytes maxL ret R H k j pc Ls (.int n :: st) Q := by
  obtain ⟨hd, rfl⟩ := hd
  subst hty
  refine Wp.stepH fun p e s m args below meth c T L hx hZ hby hml hown hnm hret X N hH => ?_
  obtain ⟨T', h', cA, X', e', E', A', B', stp⟩ := newPE X hx hZ w rfl (g := mkF m pc Ls (.int n :: st)) rfl (hb hby hd) rfl hn (cap := cap) (by rw [hcnt]; exact hcap) hb8 hc hl rfl
  subst e'
  refine ⟨T', L, _, _, _, _, Ls, _, X', E'.1, N, hH.cons E' (o := .inr (.inl (_, List.replicate cnt 0))) ⟨Or.inr B', _, A', ?_, fun x hx => ?_⟩, hr _, stp⟩
  · simp [newA, hcnt, hdef]
  · rw [(List.mem_replicate.mp hx).2]; exact hfz
set_option maxHeartbeats 1000000 in
theorem wp_newarrayJ {n : Int32} (cnt cap : Nat) (hd : Dc bytes pc (.newarray .long) 2 pc') (w : (Cond.arrayClass .long).before a0 Z = true) (hn : ¬ n < 0) (hcnt : n.toNatClampNeg = cnt) (hcap : cnt ≤ cap) (hb8 : cap * 8 ≤ 536870912) (hc : k + 1 ≤ R.cells) (hl : j + cap ≤ R.slots) (hr : ∀ a, Wp b l Z own nm bytes maxL ret R ((a, oJ (List.replicate cnt 0)) :: H) (k + 1) (j + cap) pc' Ls (.ref a :: st) Q) : Wp b l Z own nm bytes maxL ret R H k j pc Ls (.int n :: st) Q := by
  obtain ⟨hd, rfl⟩ := hd
  refine Wp.stepH fun p e s m args below meth c T L hx hZ hby hml hown hnm hret X N hH => ?_
  obtain ⟨T', h', cA, X', e', E', A', B', stp⟩ := newPE (aty := .long) (ad := "[J") X hx hZ w rfl (g := mkF m pc Ls (.int n :: st)) rfl (hb hby hd) rfl hn (cap := cap) (by rw [hcnt]; exact hcap) hb8 hc hl rfl
  subst e'
  refine ⟨T', L, _, _, _, _, Ls, _, X', E'.1, N, hH.cons E' (o := .inr (.inr (.inl (List.replicate cnt 0)))) ⟨B', _, A', ?_⟩, hr _, stp⟩
  simp [newA, hcnt, defaultValue, newarray.typeOf]
theorem in_of {j : Int32} {xs : List Value} {c : Cell} {v : Value} (hs : c.slots = xs.toArray) (hj : ¬ j < 0) (hv : xs[j.toNatClampNeg]? = some v) : ¬ (j < 0 ∨ c.slots.size ≤ j.toNatClampNeg) ∧ c.slots[j.toNatClampNeg]? = some v := by
  have h1 := (List.getElem?_eq_some_iff.mp hv).1
  refine ⟨fun q => q.elim hj fun r => ?_, by rw [hs]; simpa using hv⟩
  rw [hs] at r; simp at r; omega
theorem setSlot_list {c : Cell} {xs : List Value} {n : Nat} {v : Value} (hs : c.slots = xs.toArray) : (c.setSlot n v).slots = (xs.set n v).toArray := by simp [Cell.setSlot, hs]
theorem wp_iaload {i : Nat} {a : Addr} {fl : Bool} {xs : List Int32} {n x : Int32} (m : Nat) (hd : Dc bytes pc .iaload 1 pc') (hi : H[i]? = some (a, (fl, .inr (.inl (.int, xs))))) (hn : ¬ n < 0) (hm : n.toNatClampNeg = m) (hv : xs[m]? = some x) (hr : Wp b l Z own nm bytes maxL ret R H k j pc' Ls (.int x :: st) Q) : Wp b l Z own nm bytes maxL ret R H k j pc Ls (.int n :: .ref a :: st) Q := by
  obtain ⟨hd, rfl⟩ := hd
  refine Wp.step (fun p e s m args below meth c T L hx hZ hby hown X hH target h => ?_) hr
  obtain ⟨-, cl, A, hs, -⟩ := (hH.at hi).2
  obtain ⟨h1, h2⟩ := in_of hs hn (v := .int x) (by rw [hm]; simpa using hv)
  exact X.iaload hx A.1 (State.isArrayOf_alike hZ.alike A.2.1) A.2.2 h1 h2 (g := mkF m pc Ls (.int n :: .ref a :: st)) rfl rfl (hb hby hd) _ h
theorem wp_caload {i : Nat} {a : Addr} {fl : Bool} {xs : List Int32} {n x : Int32} (m : Nat) (hd : Dc bytes pc .caload 1 pc') (hi : H[i]? = some (a, (fl, .inr (.inl (.char, xs))))) (hn : ¬ n < 0) (hm : n.toNatClampNeg = m) (hv : xs[m]? = some x) (hr : Wp b l Z own nm bytes maxL ret R H k j pc' Ls (.int x :: st) Q) : Wp b l Z own nm bytes maxL ret R H k j pc Ls (.int n :: .ref a :: st) Q := by
  obtain ⟨hd, rfl⟩ := hd
  refine Wp.step (fun p e s m args below meth c T L hx hZ hby hown X hH target h => ?_) hr
  obtain ⟨-, cl, A, hs, -⟩ := (hH.at hi).2
  obtain ⟨h1, h2⟩ := in_of hs hn (v := .int x) (by rw [hm]; simpa using hv)
  exact X.caload hx A.1 (State.isArrayOf_alike hZ.alike A.2.1) A.2.2 h1 h2 (g := mkF m pc Ls (.int n :: .ref a :: st)) rfl rfl (hb hby hd) _ h
theorem wp_saload {i : Nat} {a : Addr} {fl : Bool} {xs : List Int32} {n x : Int32} (m : Nat) (hd : Dc bytes pc .saload 1 pc') (hi : H[i]? = some (a, (fl, .inr (.inl (.short, xs))))) (hn : ¬ n < 0) (hm : n.toNatClampNeg = m) (hv : xs[m]? = some x) (hr : Wp b l Z own nm bytes maxL ret R H k j pc' Ls (.int x :: st) Q) : Wp b l Z own nm bytes maxL ret R H k j pc Ls (.int n :: .ref a :: st) Q := by
  obtain ⟨hd, rfl⟩ := hd
  refine Wp.step (fun p e s m args below meth c T L hx hZ hby hown X hH target h => ?_) hr
  obtain ⟨-, cl, A, hs, -⟩ := (hH.at hi).2
  obtain ⟨h1, h2⟩ := in_of hs hn (v := .int x) (by rw [hm]; simpa using hv)
  exact X.saload hx A.1 (State.isArrayOf_alike hZ.alike A.2.1) A.2.2 h1 h2 (g := mkF m pc Ls (.int n :: .ref a :: st)) rfl rfl (hb hby hd) _ h
theorem wp_baload {i : Nat} {a : Addr} {fl : Bool} {xs : List Int32} {n x : Int32} (m : Nat) (hd : Dc bytes pc .baload 1 pc') (hi : H[i]? = some (a, (fl, .inr (.inl (.byte, xs))))) (hn : ¬ n < 0) (hm : n.toNatClampNeg = m) (hv : xs[m]? = some x) (hr : Wp b l Z own nm bytes maxL ret R H k j pc' Ls (.int x :: st) Q) : Wp b l Z own nm bytes maxL ret R H k j pc Ls (.int n :: .ref a :: st) Q := by
  obtain ⟨hd, rfl⟩ := hd
  refine Wp.step (fun p e s m args below meth c T L hx hZ hby hown X hH target h => ?_) hr
  obtain ⟨-, cl, A, hs, -⟩ := (hH.at hi).2
  obtain ⟨h1, h2⟩ := in_of hs hn (v := .int x) (by rw [hm]; simpa using hv)
  exact X.baloadBytes hx A.1 (State.isArrayOf_alike hZ.alike A.2.1) A.2.2 h1 h2 (g := mkF m pc Ls (.int n :: .ref a :: st)) rfl rfl (hb hby hd) _ h
theorem wp_zaload {i : Nat} {a : Addr} {fl : Bool} {xs : List Int32} {n x : Int32} (m : Nat) (hd : Dc bytes pc .baload 1 pc') (hi : H[i]? = some (a, (fl, .inr (.inl (.boolean, xs))))) (hn : ¬ n < 0) (hm : n.toNatClampNeg = m) (hv : xs[m]? = some x) (hr : Wp b l Z own nm bytes maxL ret R H k j pc' Ls (.int x :: st) Q) : Wp b l Z own nm bytes maxL ret R H k j pc Ls (.int n :: .ref a :: st) Q := by
  obtain ⟨hd, rfl⟩ := hd
  refine Wp.step (fun p e s m args below meth c T L hx hZ hby hown X hH target h => ?_) hr
  obtain ⟨-, cl, A, hs, -⟩ := (hH.at hi).2
  obtain ⟨h1, h2⟩ := in_of hs hn (v := .int x) (by rw [hm]; simpa using hv)
  exact X.baloadBooleans hx A.1 (State.isArrayOf_alike hZ.alike A.2.1) A.2.2 h1 h2 (g := mkF m pc Ls (.int n :: .ref a :: st)) rfl rfl (hb hby hd) _ h
theorem wp_laload {i : Nat} {a : Addr} {xs : List Int64} {n : Int32} {x : Int64} (m : Nat) (hd : Dc bytes pc .laload 1 pc') (hi : H[i]? = some (a, oJ xs)) (hn : ¬ n < 0) (hm : n.toNatClampNeg = m) (hv : xs[m]? = some x) (hr : Wp b l Z own nm bytes maxL ret R H k j pc' Ls (.long x :: st) Q) : Wp b l Z own nm bytes maxL ret R H k j pc Ls (.int n :: .ref a :: st) Q := by
  obtain ⟨hd, rfl⟩ := hd
  refine Wp.step (fun p e s m args below meth c T L hx hZ hby hown X hH target h => ?_) hr
  obtain ⟨Eq, cl, A, hs⟩ := (hH.at hi).2
  obtain ⟨h1, h2⟩ := in_of hs hn (v := .long x) (by rw [hm]; simpa using hv)
  exact X.laload hx A.1 (State.isArrayOf_alike hZ.alike A.2.1) A.2.2 h1 h2 (g := mkF m pc Ls (.int n :: .ref a :: st)) rfl rfl (hb hby hd) _ h
theorem wp_aaload {i : Nat} {a : Addr} {C : String} {ty : FieldType} {xs : List Value} {n : Int32} {x : Value} (m : Nat) (hd : Dc bytes pc .aaload 1 pc') (hi : H[i]? = some (a, oR C ty xs)) (hty : ty.isReference = true) (hn : ¬ n < 0) (hm : n.toNatClampNeg = m) (hv : xs[m]? = some x) (hr : Wp b l Z own nm bytes maxL ret R H k j pc' Ls (x :: st) Q) : Wp b l Z own nm bytes maxL ret R H k j pc Ls (.int n :: .ref a :: st) Q := by
  obtain ⟨hd, rfl⟩ := hd
  refine Wp.step (fun p e s m args below meth c T L hx hZ hby hown X hH target h => ?_) hr
  obtain ⟨-, cl, A, -, hs, -⟩ := (hH.at hi).2
  obtain ⟨h1, h2⟩ := in_of hs hn (hm.symm ▸ hv)
  exact X.aaload hx A.1 (State.isArrayOf_alike hZ.alike A.2.1) hty A.2.2 h1 h2 (g := mkF m pc Ls (.int n :: .ref a :: st)) rfl rfl (hb hby hd) _ h
theorem wp_lengthI {i : Nat} {a : Addr} {fl : Bool} {ty : FieldType} {xs : List Int32} (n : Int32) (hd : Dc bytes pc .arraylength 1 pc') (hi : H[i]? = some (a, (fl, .inr (.inl (ty, xs))))) (hn : xs.length.toInt32 = n) (hr : Wp b l Z own nm bytes maxL ret R H k j pc' Ls (.int n :: st) Q) : Wp b l Z own nm bytes maxL ret R H k j pc Ls (.ref a :: st) Q := by
  obtain ⟨hd, rfl⟩ := hd
  refine Wp.step (fun p e s m args below meth c T L hx hZ hby hown X hH target h => ?_) hr
  obtain ⟨-, cl, A, hs, -⟩ := (hH.at hi).2
  refine X.arraylength hx A.1 (State.isArrayOf_alike hZ.alike A.2.1) (g := mkF m pc Ls (.ref a :: st)) rfl rfl (hb hby hd) _ ?_
  have e1 : cl.slots.size.toInt32 = n := by rw [hs]; simpa using hn
  rw [e1]; exact h
theorem wp_lengthJ {i : Nat} {a : Addr} {xs : List Int64} (n : Int32) (hd : Dc bytes pc .arraylength 1 pc') (hi : H[i]? = some (a, oJ xs)) (hn : xs.length.toInt32 = n) (hr : Wp b l Z own nm bytes maxL ret R H k j pc' Ls (.int n :: st) Q) : Wp b l Z own nm bytes maxL ret R H k j pc Ls (.ref a :: st) Q := by
  obtain ⟨hd, rfl⟩ := hd
  refine Wp.step (fun p e s m args below meth c T L hx hZ hby hown X hH target h => ?_) hr
  obtain ⟨-, cl, A, hs⟩ := (hH.at hi).2
  refine X.arraylength hx A.1 (State.isArrayOf_alike hZ.alike A.2.1) (g := mkF m pc Ls (.ref a :: st)) rfl rfl (hb hby hd) _ ?_
  have e1 : cl.slots.size.toInt32 = n := by rw [hs]; simpa using hn
  rw [e1]; exact h
theorem wp_lengthR {i : Nat} {a : Addr} {C : String} {ty : FieldType} {xs : List Value} (n : Int32) (hd : Dc bytes pc .arraylength 1 pc') (hi : H[i]? = some (a, oR C ty xs)) (hn : xs.length.toInt32 = n) (hr : Wp b l Z own nm bytes maxL ret R H k j pc' Ls (.int n :: st) Q) : Wp b l Z own nm bytes maxL ret R H k j pc Ls (.ref a :: st) Q := by
  obtain ⟨hd, rfl⟩ := hd
  refine Wp.step (fun p e s m args below meth c T L hx hZ hby hown X hH target h => ?_) hr
  obtain ⟨-, cl, A, -, hs, -⟩ := (hH.at hi).2
  refine X.arraylength hx A.1 (State.isArrayOf_alike hZ.alike A.2.1) (g := mkF m pc Ls (.ref a :: st)) rfl rfl (hb hby hd) _ ?_
  have e1 : cl.slots.size.toInt32 = n := by rw [hs]; simpa using hn
  rw [e1]; exact h
theorem wp_iastore {i : Nat} {a : Addr} {xs : List Int32} {n x : Int32} (m : Nat) (hd : Dc bytes pc .iastore 1 pc') (hi : H[i]? = some (a, oA .int xs)) (hn : ¬ n < 0) (hm : n.toNatClampNeg = m) (hin : m < xs.length) (hr : Wp b l Z own nm bytes maxL ret R (H.set i (a, oA .int (xs.set m x))) k j pc' Ls st Q) : Wp b l Z own nm bytes maxL ret R H k j pc Ls (.int x :: .int n :: .ref a :: st) Q := by
  obtain ⟨hd, rfl⟩ := hd
  refine Wp.stepH fun p e s mm args below meth c T L hx hZ hby hml hown hnm hret X N hH => ?_
  subst hm
  obtain ⟨Eq, cl, A, hs, G⟩ := (hH.at hi).2
  obtain ⟨h1, -⟩ := in_of hs hn (v := .int xs[n.toNatClampNeg]) (by simp [hin])
  obtain ⟨T', h', X', e', W', stp⟩ := stI X hx hZ rfl A h1 (g := mkF mm pc Ls (.int x :: .int n :: .ref a :: st)) rfl rfl (hb hby hd)
  subst e'
  exact ⟨T', _, k, j, _, _, Ls, st, X', by rw [W'.size]; exact Nat.le_refl _, Fr.snoc X' N ((hH.at hi).1 rfl), hH.set hi W' (o' := .inr (.inl (_, xs.set n.toNatClampNeg _))) ⟨Eq.imp id (·.wr W'), _, A.same W', by rw [setSlot_list hs, List.map_set], fun y hy => (List.mem_or_eq_of_mem_set hy).elim (G y) fun q => by rw [q]; exact rfl⟩, hr, stp⟩
theorem wp_castore {i : Nat} {a : Addr} {xs : List Int32} {n x : Int32} (m : Nat) (hd : Dc bytes pc .castore 1 pc') (hi : H[i]? = some (a, oA .char xs)) (hn : ¬ n < 0) (hm : n.toNatClampNeg = m) (hin : m < xs.length) (hr : Wp b l Z own nm bytes maxL ret R (H.set i (a, oA .char (xs.set m (nar .char x)))) k j pc' Ls st Q) : Wp b l Z own nm bytes maxL ret R H k j pc Ls (.int x :: .int n :: .ref a :: st) Q := by
  obtain ⟨hd, rfl⟩ := hd
  refine Wp.stepH fun p e s mm args below meth c T L hx hZ hby hml hown hnm hret X N hH => ?_
  subst hm
  obtain ⟨Eq, cl, A, hs, G⟩ := (hH.at hi).2
  obtain ⟨h1, -⟩ := in_of hs hn (v := .int xs[n.toNatClampNeg]) (by simp [hin])
  obtain ⟨T', h', X', e', W', stp⟩ := stC X hx hZ rfl A h1 (g := mkF mm pc Ls (.int x :: .int n :: .ref a :: st)) rfl rfl (hb hby hd)
  subst e'
  exact ⟨T', _, k, j, _, _, Ls, st, X', by rw [W'.size]; exact Nat.le_refl _, Fr.snoc X' N ((hH.at hi).1 rfl), hH.set hi W' (o' := .inr (.inl (_, xs.set n.toNatClampNeg _))) ⟨Eq.imp id (·.wr W'), _, A.same W', by rw [setSlot_list hs, List.map_set], fun y hy => (List.mem_or_eq_of_mem_set hy).elim (G y) fun q => by rw [q]; exact fits_nar_char x⟩, hr, stp⟩
theorem wp_sastore {i : Nat} {a : Addr} {xs : List Int32} {n x : Int32} (m : Nat) (hd : Dc bytes pc .sastore 1 pc') (hi : H[i]? = some (a, oA .short xs)) (hn : ¬ n < 0) (hm : n.toNatClampNeg = m) (hin : m < xs.length) (hr : Wp b l Z own nm bytes maxL ret R (H.set i (a, oA .short (xs.set m (nar .short x)))) k j pc' Ls st Q) : Wp b l Z own nm bytes maxL ret R H k j pc Ls (.int x :: .int n :: .ref a :: st) Q := by
  obtain ⟨hd, rfl⟩ := hd
  refine Wp.stepH fun p e s mm args below meth c T L hx hZ hby hml hown hnm hret X N hH => ?_
  subst hm
  obtain ⟨Eq, cl, A, hs, G⟩ := (hH.at hi).2
  obtain ⟨h1, -⟩ := in_of hs hn (v := .int xs[n.toNatClampNeg]) (by simp [hin])
  obtain ⟨T', h', X', e', W', stp⟩ := stS X hx hZ rfl A h1 (g := mkF mm pc Ls (.int x :: .int n :: .ref a :: st)) rfl rfl (hb hby hd)
  subst e'
  exact ⟨T', _, k, j, _, _, Ls, st, X', by rw [W'.size]; exact Nat.le_refl _, Fr.snoc X' N ((hH.at hi).1 rfl), hH.set hi W' (o' := .inr (.inl (_, xs.set n.toNatClampNeg _))) ⟨Eq.imp id (·.wr W'), _, A.same W', by rw [setSlot_list hs, List.map_set], fun y hy => (List.mem_or_eq_of_mem_set hy).elim (G y) fun q => by rw [q]; exact fits_nar_short x⟩, hr, stp⟩
theorem wp_bastore {i : Nat} {a : Addr} {xs : List Int32} {n x : Int32} (m : Nat) (hd : Dc bytes pc .bastore 1 pc') (hi : H[i]? = some (a, oA .byte xs)) (hn : ¬ n < 0) (hm : n.toNatClampNeg = m) (hin : m < xs.length) (hr : Wp b l Z own nm bytes maxL ret R (H.set i (a, oA .byte (xs.set m (nar .byte x)))) k j pc' Ls st Q) : Wp b l Z own nm bytes maxL ret R H k j pc Ls (.int x :: .int n :: .ref a :: st) Q := by
  obtain ⟨hd, rfl⟩ := hd
  refine Wp.stepH fun p e s mm args below meth c T L hx hZ hby hml hown hnm hret X N hH => ?_
  subst hm
  obtain ⟨Eq, cl, A, hs, G⟩ := (hH.at hi).2
  obtain ⟨h1, -⟩ := in_of hs hn (v := .int xs[n.toNatClampNeg]) (by simp [hin])
  obtain ⟨T', h', X', e', W', stp⟩ := stB X hx hZ rfl A h1 (g := mkF mm pc Ls (.int x :: .int n :: .ref a :: st)) rfl rfl (hb hby hd)
  subst e'
  exact ⟨T', _, k, j, _, _, Ls, st, X', by rw [W'.size]; exact Nat.le_refl _, Fr.snoc X' N ((hH.at hi).1 rfl), hH.set hi W' (o' := .inr (.inl (_, xs.set n.toNatClampNeg _))) ⟨Eq.imp id (·.wr W'), _, A.same W', by rw [setSlot_list hs, List.map_set], fun y hy => (List.mem_or_eq_of_mem_set hy).elim (G y) fun q => by rw [q]; exact fits_nar_byte x⟩, hr, stp⟩
theorem wp_zastore {i : Nat} {a : Addr} {xs : List Int32} {n x : Int32} (m : Nat) (hd : Dc bytes pc .bastore 1 pc') (hi : H[i]? = some (a, oA .boolean xs)) (hn : ¬ n < 0) (hm : n.toNatClampNeg = m) (hin : m < xs.length) (hr : Wp b l Z own nm bytes maxL ret R (H.set i (a, oA .boolean (xs.set m (nar .boolean x)))) k j pc' Ls st Q) : Wp b l Z own nm bytes maxL ret R H k j pc Ls (.int x :: .int n :: .ref a :: st) Q := by
  obtain ⟨hd, rfl⟩ := hd
  refine Wp.stepH fun p e s mm args below meth c T L hx hZ hby hml hown hnm hret X N hH => ?_
  subst hm
  obtain ⟨Eq, cl, A, hs, G⟩ := (hH.at hi).2
  obtain ⟨h1, -⟩ := in_of hs hn (v := .int xs[n.toNatClampNeg]) (by simp [hin])
  obtain ⟨T', h', X', e', W', stp⟩ := stZ X hx hZ rfl A h1 (g := mkF mm pc Ls (.int x :: .int n :: .ref a :: st)) rfl rfl (hb hby hd)
  subst e'
  exact ⟨T', _, k, j, _, _, Ls, st, X', by rw [W'.size]; exact Nat.le_refl _, Fr.snoc X' N ((hH.at hi).1 rfl), hH.set hi W' (o' := .inr (.inl (_, xs.set n.toNatClampNeg _))) ⟨Eq.imp id (·.wr W'), _, A.same W', by rw [setSlot_list hs, List.map_set], fun y hy => (List.mem_or_eq_of_mem_set hy).elim (G y) fun q => by rw [q]; exact fits_nar_bool x⟩, hr, stp⟩
theorem wp_lastore {i : Nat} {a : Addr} {xs : List Int64} {n : Int32} {x : Int64} (m : Nat) (hd : Dc bytes pc .lastore 1 pc') (hi : H[i]? = some (a, oJ xs)) (hn : ¬ n < 0) (hm : n.toNatClampNeg = m) (hin : m < xs.length) (hr : Wp b l Z own nm bytes maxL ret R (H.set i (a, oJ (xs.set m x))) k j pc' Ls st Q) : Wp b l Z own nm bytes maxL ret R H k j pc Ls (.long x :: .int n :: .ref a :: st) Q := by
  obtain ⟨hd, rfl⟩ := hd
  refine Wp.stepH fun p e s mm args below meth c T L hx hZ hby hml hown hnm hret X N hH => ?_
  subst hm
  obtain ⟨Eq, cl, A, hs⟩ := (hH.at hi).2
  obtain ⟨h1, -⟩ := in_of hs hn (v := .long xs[n.toNatClampNeg]) (by simp [hin])
  obtain ⟨T', h', X', e', W', stp⟩ := stJ X hx hZ rfl A h1 (g := mkF mm pc Ls (.long x :: .int n :: .ref a :: st)) rfl rfl (hb hby hd)
  subst e'
  exact ⟨T', _, k, j, _, _, Ls, st, X', by rw [W'.size]; exact Nat.le_refl _, Fr.snoc X' N ((hH.at hi).1 rfl), hH.set hi W' (o' := .inr (.inr (.inl (xs.set n.toNatClampNeg x)))) ⟨Eq.wr W', _, A.same W', by rw [setSlot_list hs, List.map_set]⟩, hr, stp⟩
/-- a body's contract: handed these arguments among these new objects it returns and Q holds -/
def Met (l : Launch) (Z : State) (y : MethodName) (bytes : ByteArray) (maxL : Nat) (ret : Option FieldType) (rm : Room) (as' : List Value) (H : OH) (Q : Option Value → OH → Prop) : Prop :=
  ∀ (ws : List Jvm.Cond) (h : Heap), Hp Z h H → MetFree l y (head1 (Jvm.Cond.code y bytes maxL ret :: ws) rm) (fun a U => a = as'.toArray ∧ Z.Warmed39 U.vm ∧ U.heap = h) (fun _ _ _ _ _ => True)
    (fun _ U o U' => ∃ v L, o = .returned v ∧ (Fr Z.heap.size L ∧ h.size ≤ U'.heap.size ∧ ∃ H', Hp Z U'.heap H' ∧ Q v H') ∧ FrameEnd U o U' L rm.cells rm.slots)
theorem Met.of_wp {y : MethodName} {rm : Room} {as' : List Value} (hx : plainFor y = true) (hef : ∀ m, entryFrame m as'.toArray maxL = mkF m 0 Ls []) (hw : Wp none l Z y.cls y.name bytes maxL ret rm H 0 0 0 Ls [] Q) : Met l Z y bytes maxL ret rm as' H Q := by
  intro ws h hH
  refine MetFree.of_bodySF hx hisR ?_
  intro p e s m args below meth c s₁ Bd hml0 hP hK
  obtain ⟨rfl, hZ, hh⟩ := hP
  have X0 : Stand p l e rm s m as'.toArray below meth c s₁ [] 0 0 := Stand.of_body Bd
  have e0 : s₁.heap = h := by rw [← hh, Bd.state]; rfl
  obtain ⟨T', v, L', k', j', vm1, k1, H', ⟨hS, hk1, hvm⟩, X', ⟨hc, hj, hsz⟩, N', hH', hv, hQ, stp⟩ := hw p e s s.vm 0 m as'.toArray below meth c s₁ [] Bd.exec hZ ((State.WarmedH.refl s).since 0) (Nat.zero_le _) Bd.bytes hml0 (findClass_of_methodNamed Bd.named) (name_of_methodNamed Bd.named Bd.method).1 Bd.returns X0 (Fr.nil _) (by rw [e0]; exact hH) (fun _ q => nomatch q)
  obtain rfl := hvm rfl
  have X'' : Stand p l e rm s m as'.toArray below meth c T' L' k' j' := X'
  obtain ⟨fs, hr, hrun, hended, hW, hsame⟩ := X''.leave (v := v) (fun h => hv (Bd.returns.symm.trans h))
  refine ⟨_, _, castTop (hef m) (stp fs hr), hrun, hended, v, L', rfl, ⟨N', ?_, H', hH', hQ⟩, ⟨_, rfl⟩, hW, hsame.mono hc hj⟩
  rw [e0] at hsz; exact hsz
/-- the same for a body that may intern (a String constant loaded cold) -/
theorem MetW.of_wp {y : MethodName} {rm : Room} {as' : List Value} (hx : plainFor y = true) (hef : ∀ m, entryFrame m as'.toArray maxL = mkF m 0 Ls []) (hw : Wp b l Z y.cls y.name bytes maxL ret rm H 0 0 0 Ls [] Q) (ws : List Jvm.Cond) (h : Heap) (hH : Hp Z h H) :
    MetFree l y (head1 (Jvm.Cond.code y bytes maxL ret :: ws) rm) (fun a U => a = as'.toArray ∧ Z.Warmed39 U.vm ∧ U.heap = h ∧ MdOk b Z U U.vm) (fun _ _ _ _ _ => True)
      (fun _ U o U' => ∃ v L, o = .returned v ∧ (Fr Z.heap.size L ∧ ∃ H', Hp Z U'.heap H' ∧ Q v H') ∧ ReturnedEndW U o U' L rm.cells rm.slots) := by
  refine MetFree.of_bodySF hx hisR ?_
  intro p e s m args below meth c s₁ Bd hml0 hP hK
  obtain ⟨rfl, hZ, hh, hB⟩ := hP
  have X0 : Stand p l e rm s m as'.toArray below meth c s₁ [] 0 0 := Stand.of_body Bd
  have e0 : s₁.heap = h := by rw [← hh, Bd.state]; rfl
  obtain ⟨T', v, L', k', j', vm1, k1, H', ⟨hS, hk1, -⟩, X', ⟨hc, hj, hsz⟩, N', hH', hv, hQ, stp⟩ := hw p e s s.vm 0 m as'.toArray below meth c s₁ [] Bd.exec hZ ((State.WarmedH.refl s).since 0) (Nat.zero_le _) Bd.bytes hml0 (findClass_of_methodNamed Bd.named) (name_of_methodNamed Bd.named Bd.method).1 Bd.returns X0 (Fr.nil _) (by rw [e0]; exact hH) hB
  obtain ⟨fs, hr, hrun, hended, q1, q2, q3, q4⟩ := X'.leaveW hS hk1 (v := v) (fun h => hv (Bd.returns.symm.trans h))
  exact ⟨_, _, castTop (hef m) (stp fs hr), hrun, hended, v, L', rfl, ⟨N', H', hH', hQ⟩, q1, q2, q3, q4.mono hc hj⟩
theorem Met.mono {y : MethodName} {rm : Room} {as' : List Value} {Q' : Option Value → OH → Prop} (M : Met l Z y bytes maxL ret rm as' H Q') (hq : ∀ v H', Q' v H' → Q v H') : Met l Z y bytes maxL ret rm as' H Q := fun ws h hH p e ha hc hk s m args below hf happ hP hK => by
  obtain ⟨n, o, h1, h2, h3, v, L, rfl, ⟨q1, q2, H', q3, q4⟩, h5⟩ := M ws h hH p e ha hc hk s m args below hf happ hP hK
  exact ⟨n, _, h1, h2, h3, v, L, rfl, ⟨q1, q2, H', q3, hq _ _ q4⟩, h5⟩
theorem wp_callS {y : MethodName} {bytes' : ByteArray} {maxL' : Nat} {ret' : Option FieldType} {rm : Room} {rest : List Value} {Q' : Option Value → OH → Prop} {idx : Nat} {ps : List FieldType} {rt : Option FieldType} {as' : List Value} (M : Met l Z y bytes' maxL' ret' rm as' H Q') (hd : Dc bytes pc (.invokestatic idx) 3 pc') (w1 : (Cond.methodLink own idx y).before a0 Z = true) (w2 : (Cond.static y).before a0 Z = true) (w3 : (Cond.initialized y.cls).before a0 Z = true) (w4 : (Cond.code y bytes' maxL' ret').before a0 Z = true) (hy : y.cls ≠ "java/lang/invoke/MethodHandle" ∧ y.cls ≠ "java/lang/invoke/VarHandle") (hpd : parseMethodDescriptor y.desc = some ⟨ps, rt⟩) (hlen : as'.length = ps.length) (hst : st = as'.reverse ++ rest) (hsz : Ls.size = maxL) (hf : rm.frames + 1 ≤ R.frames) (hl : (rest.map fun v => v.category).sum + (maxL' + 11) + rm.locals ≤ R.locals) (hc : k + rm.cells ≤ R.cells) (hj : j + rm.slots ≤ R.slots) (hr : ∀ v H', Q' v H' → Wp b l Z own nm bytes maxL ret R H' (k + rm.cells) (j + rm.slots) pc' Ls (v.toList ++ rest) Q) : Wp b l Z own nm bytes maxL ret R H k j pc Ls st Q := by
  obtain ⟨hd, rfl⟩ := hd
  refine Wp.stepH fun p e s m args below meth c T L hx hZ hby hml hown hnm hret X N hH => ?_
  obtain ⟨v, _, ⟨T', L', k', n'⟩, -, X', ⟨Lc, ⟨N', hsz', H', hH', hQ⟩, l1, y1, z1⟩, stp⟩ := Jvm.LawKit.callS X hx (y := y) hown (mvT hZ w1) (mvT hZ w2) (mvT hZ w3) (mvT hZ w4) hy (backOf (W := (rest.map fun v => v.category).sum) (Q := fun v h L => Fr Z.heap.size L ∧ T.heap.size ≤ h.size ∧ ∃ H', Hp Z h H' ∧ Q' v H') (M [] T.heap hH) hZ w4 w3 hf hl) (g := mkF m pc Ls st) rfl (by rw [hml]; exact hsz) (argsL := as') (rest := rest) (lenOf hpd hlen) hst (by show 2 * 0 + _ ≤ _; omega) (hb hby hd) (fun _ _ => ⟨rfl, rfl, hc, hj⟩)
  dsimp only [Pt.U, Pt.locs, Pt.cells, Pt.slots] at X' l1 y1 z1 stp hH' hsz'
  subst l1 y1 z1
  exact ⟨T', _, _, _, H', _, Ls, v.toList ++ rest, X', hsz', N.app N', hH', hr v H' hQ, stp⟩
theorem wp_init {y : MethodName} {bytes' : ByteArray} {maxL' : Nat} {rm : Room} {rest : List Value} {Q' : Option Value → OH → Prop} {idx : Nat} {ps : List FieldType} {rt : Option FieldType} {a : Addr} {as' : List Value} (M : Met l Z y bytes' maxL' none rm (.ref a :: as') H Q') (hd : Dc bytes pc (.invokespecial idx) 3 pc') (hin : y.name = "<init>") (w1 : (Cond.methodLink own idx y).before a0 Z = true) (w2 : (Cond.instanceMethod y).before a0 Z = true) (w3 : (Cond.initialized y.cls).before a0 Z = true) (w4 : (Cond.code y bytes' maxL' none).before a0 Z = true) (hy : y.cls ≠ "java/lang/invoke/MethodHandle" ∧ y.cls ≠ "java/lang/invoke/VarHandle") (hpd : parseMethodDescriptor y.desc = some ⟨ps, rt⟩) (hlen : as'.length = ps.length) (hst : st = as'.reverse ++ .ref a :: rest) (hsz : Ls.size = maxL) (hf : rm.frames + 1 ≤ R.frames) (hl : (rest.map fun v => v.category).sum + (maxL' + 11) + rm.locals ≤ R.locals) (hc : k + rm.cells ≤ R.cells) (hj : j + rm.slots ≤ R.slots) (hr : ∀ v H', Q' v H' → Wp b l Z own nm bytes maxL ret R H' (k + rm.cells) (j + rm.slots) pc' Ls (v.toList ++ rest) Q) : Wp b l Z own nm bytes maxL ret R H k j pc Ls st Q := by
  obtain ⟨hd, rfl⟩ := hd
  refine Wp.stepH fun p e s m args below meth c T L hx hZ hby hml hown hnm hret X N hH => ?_
  obtain ⟨v, _, ⟨T', L', k', n'⟩, -, X', ⟨Lc, ⟨N', hsz', H', hH', hQ⟩, l1, y1, z1⟩, stp⟩ := X.specialBack hx (y := y) hin hown (mvT hZ w1) (mvT hZ w2) (mvT hZ w4) hy (backOf (W := (rest.map fun v => v.category).sum) (Q := fun v h L => Fr Z.heap.size L ∧ T.heap.size ≤ h.size ∧ ∃ H', Hp Z h H' ∧ Q' v H') (M [] T.heap hH) hZ w4 w3 hf hl) (g := mkF m pc Ls st) rfl (by rw [hml]; exact hsz) (Steps.refl _) (a := a) (argsL := as') (rest := rest) (lenOf hpd hlen) hst (by show 2 * 0 + _ ≤ _; omega) (hb hby hd) (fun _ _ => ⟨rfl, rfl, hc, hj⟩)
  dsimp only [Pt.U, Pt.locs, Pt.cells, Pt.slots] at X' l1 y1 z1 stp hH' hsz'
  subst l1 y1 z1
  exact ⟨T', _, _, _, H', _, Ls, v.toList ++ rest, X', hsz', N.app N', hH', hr v H' hQ, fun _ q => stp.trans q⟩
theorem wp_virtual {y : MethodName} {bytes' : ByteArray} {maxL' : Nat} {ret' : Option FieldType} {rm : Room} {rest : List Value} {Q' : Option Value → OH → Prop} {idx : Nat} {ps : List FieldType} {rt : Option FieldType} {x : MethodName} {C : String} {a : Addr} {as' : List Value} (M : Met l Z y bytes' maxL' ret' rm (.ref a :: as') H Q') (E : ExaAt Z H a C) (hd : Dc bytes pc (.invokevirtual idx) 3 pc') (w1 : (Cond.methodLink own idx x).before a0 Z = true) (w2 : (Cond.declares x).before a0 Z = true) (wn : (Cond.selects x.cls x x).before a0 Z = true) (ws : (Cond.selects C x y).before a0 Z = true) (wi : (Cond.instanceMethod y).before a0 Z = true) (w3 : (Cond.initialized y.cls).before a0 Z = true) (w4 : (Cond.code y bytes' maxL' ret').before a0 Z = true) (hy : x.cls ≠ "java/lang/invoke/MethodHandle" ∧ x.cls ≠ "java/lang/invoke/VarHandle") (hpd : parseMethodDescriptor x.desc = some ⟨ps, rt⟩) (hlen : as'.length = ps.length) (hst : st = as'.reverse ++ .ref a :: rest) (hsz : Ls.size = maxL) (hf : rm.frames + 1 ≤ R.frames) (hl : (rest.map fun v => v.category).sum + (maxL' + 11) + rm.locals ≤ R.locals) (hc : k + rm.cells ≤ R.cells) (hj : j + rm.slots ≤ R.slots) (hr : ∀ v H', Q' v H' → Wp b l Z own nm bytes maxL ret R H' (k + rm.cells) (j + rm.slots) pc' Ls (v.toList ++ rest) Q) : Wp b l Z own nm bytes maxL ret R H k j pc Ls st Q := by
  obtain ⟨hd, rfl⟩ := hd
  refine Wp.stepH fun p e s m args below meth c T L hx hZ hby hml hown hnm hret X N hH => ?_
  obtain ⟨cq, kq, q1, q2, q3⟩ := isOf hZ rfl (E _ hH)
  obtain ⟨v, _, ⟨T', L', k', n'⟩, -, X', ⟨Lc, ⟨N', hsz', H', hH', hQ⟩, l1, y1, z1⟩, stp⟩ := X.virtualBack hx (y := x) (z := y) hown (mvT hZ w1) (mvT hZ w2) (notFace_of_selects (args := #[]) (mvT hZ wn)) (mvT hZ ws) (mvT hZ wi) hy (backOf (W := (rest.map fun v => v.category).sum) (Q := fun v h L => Fr Z.heap.size L ∧ T.heap.size ≤ h.size ∧ ∃ H', Hp Z h H' ∧ Q' v H') (M [] T.heap hH) hZ w4 w3 hf hl) q1 q3 (g := mkF m pc Ls st) rfl (by rw [hml]; exact hsz) (Steps.refl _) (argsL := as') (rest := rest) (lenOf hpd hlen) hst (by show 2 * 0 + _ ≤ _; omega) (hb hby hd) (fun _ _ => ⟨rfl, rfl, hc, hj⟩)
  dsimp only [Pt.U, Pt.locs, Pt.cells, Pt.slots] at X' l1 y1 z1 stp hH' hsz'
  subst l1 y1 z1
  exact ⟨T', _, _, _, H', _, Ls, v.toList ++ rest, X', hsz', N.app N', hH', hr v H' hQ, fun _ q => stp.trans q⟩
theorem xs_pop2L {tb : Tables} [Ours tb] {e : Env} {below : List Frame} {T target : State} {m : MethodId} {c : Code} {g : JFrame} (h : At T m c below) (hx : tb.exec = Jvm.exec) (hg : g.method = m) {x : Int64} {rest : List Value} (hd : decode c.code g.pc = .ok (.pop2, 1)) (hs : g.stack = .long x :: rest)
    (hr : Steps tb e below (T.setTop { g with pc := g.pc + 1, stack := rest }) target) : Steps tb e below (T.setTop g) target := by
  subst hg
  jvm_step h [h.top, hx, hd, hs, Value.category]
  exact hr
theorem xs_dup_x2 {tb : Tables} [Ours tb] {e : Env} {below : List Frame} {T target : State} {m : MethodId} {c : Code} {g : JFrame} (h : At T m c below) (hx : tb.exec = Jvm.exec) (hg : g.method = m) {x y z : Value} {rest : List Value} (hd : decode c.code g.pc = .ok (.dup_x2, 1)) (hs : g.stack = x :: y :: z :: rest) (hc1 : x.category = 1) (hc2 : y.category = 1) (hc3 : z.category = 1)
    (hr : Steps tb e below (T.setTop { g with pc := g.pc + 1, stack := x :: y :: z :: x :: rest }) target) : Steps tb e below (T.setTop g) target := by
  subst hg
  jvm_step h [h.top, hx, hd, hs, hc1, hc2, hc3]
  exact hr
theorem wp_pop2L {x : Int64} (hd : Dc bytes pc (.pop2) 1 pc')  (hr : Wp b l Z own nm bytes maxL ret R H k j pc' Ls st Q) : Wp b l Z own nm bytes maxL ret R H k j pc Ls (.long x :: st) Q := by
  obtain ⟨hd, rfl⟩ := hd
  exact Wp.step (fun p e s m args below meth c T L hx hZ hby hown X hH target ht => xs_pop2L X.here hx rfl (hb hby hd) rfl ht) hr
theorem wp_dup_x2 {x y z : Value} (hd : Dc bytes pc (.dup_x2) 1 pc') (hc1 : x.category = 1) (hc2 : y.category = 1) (hc3 : z.category = 1) (hr : Wp b l Z own nm bytes maxL ret R H k j pc' Ls (x :: y :: z :: x :: st) Q) : Wp b l Z own nm bytes maxL ret R H k j pc Ls (x :: y :: z :: st) Q := by
  obtain ⟨hd, rfl⟩ := hd
  exact Wp.step (fun p e s m args below meth c T L hx hZ hby hown X hH target ht => xs_dup_x2 X.here hx rfl (hb hby hd) rfl hc1 hc2 hc3 ht) hr
theorem wp_private {y : MethodName} {bytes' : ByteArray} {maxL' : Nat} {ret' : Option FieldType} {rm : Room} {rest : List Value} {Q' : Option Value → OH → Prop} {idx : Nat} {ps : List FieldType} {rt : Option FieldType} {a : Addr} {C : String} {kk : Nat} {as' : List Value} (M : Met l Z y bytes' maxL' ret' rm (.ref a :: as') H Q') (E : ExaAt Z H a C) (hd : Dc bytes pc (.invokevirtual idx) 3 pc') (w1 : (Cond.methodLink own idx y).before a0 Z = true) (wi : (Cond.instanceMethod y).before a0 Z = true) (wn : (Cond.instantiable y.cls kk).before a0 Z = true) (wp : (Cond.privateMethod y).before a0 Z = true) (w3 : (Cond.initialized y.cls).before a0 Z = true) (w4 : (Cond.code y bytes' maxL' ret').before a0 Z = true) (hy : y.cls ≠ "java/lang/invoke/MethodHandle" ∧ y.cls ≠ "java/lang/invoke/VarHandle") (hpd : parseMethodDescriptor y.desc = some ⟨ps, rt⟩) (hlen : as'.length = ps.length) (hst : st = as'.reverse ++ .ref a :: rest) (hsz : Ls.size = maxL) (hf : rm.frames + 1 ≤ R.frames) (hl : (rest.map fun v => v.category).sum + (maxL' + 11) + rm.locals ≤ R.locals) (hc : k + rm.cells ≤ R.cells) (hj : j + rm.slots ≤ R.slots) (hr : ∀ v H', Q' v H' → Wp b l Z own nm bytes maxL ret R H' (k + rm.cells) (j + rm.slots) pc' Ls (v.toList ++ rest) Q) : Wp b l Z own nm bytes maxL ret R H k j pc Ls st Q := by
  obtain ⟨hd, rfl⟩ := hd
  refine Wp.stepH fun p e s m args below meth c T L hx hZ hby hml hown hnm hret X N hH => ?_
  obtain ⟨cl, q1, q2⟩ := (E _ hH).cell
  obtain ⟨mk, mt, n1, n2, n3, n4⟩ := Cond.instanceMethod_spec (mvT (args := args) hZ wi)
  obtain ⟨mt', cM, n2', -, -, -, -, -, -, n5⟩ := Cond.code_spec n1 (mvT (args := args) hZ w4)
  cases n2.symm.trans n2'
  obtain ⟨c2, k2, i1, i2, -, i4, -⟩ := Cond.instantiable_spec (mvT (args := args) hZ wn)
  cases (findClass_of_methodNamed n1).symm.trans i1
  have i5 : k2.isInterface = false := by cases q : k2.isInterface with | false => rfl | true => rw [q] at i4; cases i4
  have hsel : selectMethod e.platform s.vm cl.cls mk = .method mk := selectMethod_private n2 (Cond.privateMethod_at (mvP (args := args) hZ wp) mk mt n1 n2)
  obtain ⟨vm1, X1, st1⟩ := X.invokevirtual hx hown (mvT hZ w1) n1 n2 n3 i2 i5 hy (a := a) (cell := cl) q1 q2 hsel n2 n4 i2 i5 (g := mkF m pc Ls st) rfl (argsL := as') (rest := rest) (lenOf hpd hlen _ n5) hst (hb hby hd)
  obtain ⟨v, ⟨T', L', k', n'⟩, X', ⟨Lc, ⟨N', hsz', H', hH', hQ⟩, l1, y1, z1⟩, st2⟩ := backOf (p := p) (e := e) (below := below) (args := args) (len := 3) (W := (rest.map fun v => v.category).sum) (Q := fun v h L => Fr Z.heap.size L ∧ T.heap.size ≤ h.size ∧ ∃ H', Hp Z h H' ∧ Q' v H') (M [] T.heap hH) hZ w4 w3 hf hl m meth c ⟨T.setVm vm1, L, k, j⟩ { mkF m pc Ls st with stack := rest } (.invokevirtual idx) mk (.ref a :: as').toArray X1 rfl (by show Ls.size = _; rw [hml]; exact hsz) (hb hby hd) (by show 2 * 0 + (rest.map fun v => v.category).sum ≤ _; omega) (X1.named n1) ⟨rfl, rfl, hc, hj⟩
  dsimp only [Pt.U, Pt.locs, Pt.cells, Pt.slots] at X' l1 y1 z1 st2 hH' hsz'
  subst l1 y1 z1
  exact ⟨T', _, _, _, H', _, Ls, v.toList ++ rest, X', hsz', N.app N', hH', hr v H' hQ, fun t q => st1 _ fun acts => by rw [doInvoke_state]; exact st2.trans q⟩
theorem wp_interface {y : MethodName} {bytes' : ByteArray} {maxL' : Nat} {ret' : Option FieldType} {rm : Room} {rest : List Value} {Q' : Option Value → OH → Prop} {idx : Nat} {ps : List FieldType} {rt : Option FieldType} {x : MethodName} {C : String} {cnt : Nat} {a : Addr} {as' : List Value} (M : Met l Z y bytes' maxL' ret' rm (.ref a :: as') H Q') (E : ExaAt Z H a C) (hd : Dc bytes pc (.invokeinterface idx cnt) 5 pc') (w1 : (Cond.methodLink own idx x).before a0 Z = true) (w2 : (Cond.declares x).before a0 Z = true) (wf : (Cond.interfaceMethod x.cls x.cls x.name x.desc).before a0 Z = true) (hfa : ((Cond.interfaceMethod x.cls x.cls x.name x.desc).onTables && (Cond.interfaceMethod x.cls x.cls x.name x.desc).keepsFace) = true) (ws : (Cond.selects C x y).before a0 Z = true) (wi : (Cond.instanceMethod y).before a0 Z = true) (wpu : (Cond.publicMethod y).before a0 Z = true) (wu : (Cond.unhidden C x.name x.desc).before a0 Z = true) (wc : (Cond.castable C x.cls).before a0 Z = true) (w3 : (Cond.initialized y.cls).before a0 Z = true) (w4 : (Cond.code y bytes' maxL' ret').before a0 Z = true) (hy : x.cls ≠ "java/lang/invoke/MethodHandle" ∧ x.cls ≠ "java/lang/invoke/VarHandle") (hpd : parseMethodDescriptor x.desc = some ⟨ps, rt⟩) (hlen : as'.length = ps.length) (hst : st = as'.reverse ++ .ref a :: rest) (hsz : Ls.size = maxL) (hf : rm.frames + 1 ≤ R.frames) (hl : (rest.map fun v => v.category).sum + (maxL' + 11) + rm.locals ≤ R.locals) (hc : k + rm.cells ≤ R.cells) (hj : j + rm.slots ≤ R.slots) (hr : ∀ v H', Q' v H' → Wp b l Z own nm bytes maxL ret R H' (k + rm.cells) (j + rm.slots) pc' Ls (v.toList ++ rest) Q) : Wp b l Z own nm bytes maxL ret R H k j pc Ls st Q := by
  obtain ⟨hd, rfl⟩ := hd
  refine Wp.stepH fun p e s m args below meth c T L hx hZ hby hml hown hnm hret X N hH => ?_
  obtain ⟨cq, kq, q1, q2, q3⟩ := isOf hZ rfl (E _ hH)
  obtain ⟨v, _, ⟨T', L', k', n'⟩, -, X', ⟨Lc, ⟨N', hsz', H', hH', hQ⟩, l1, y1, z1⟩, stp⟩ := X.interfaceBack hx (xi := x) (y := y) hown (mvT hZ w1) (mvT hZ w2) (mvT hZ wf hfa) (mvT hZ ws) (mvT hZ wi) (mvT hZ wpu) (mvT hZ wu) (mvT hZ wc) hy (backOf (len := 5) (W := (rest.map fun v => v.category).sum) (Q := fun v h L => Fr Z.heap.size L ∧ T.heap.size ≤ h.size ∧ ∃ H', Hp Z h H' ∧ Q' v H') (M [] T.heap hH) hZ w4 w3 hf hl) q1 q2 q3 (g := mkF m pc Ls st) rfl (by rw [hml]; exact hsz) (Steps.refl _) (argsL := as') (rest := rest) (lenOf hpd hlen) hst (by show 2 * 0 + _ ≤ _; omega) (hb hby hd) (fun _ _ => ⟨rfl, rfl, hc, hj⟩)
  dsimp only [Pt.U, Pt.locs, Pt.cells, Pt.slots] at X' l1 y1 z1 stp hH' hsz'
  subst l1 y1 z1
  exact ⟨T', _, _, _, H', _, Ls, v.toList ++ rest, X', hsz', N.app N', hH', hr v H' hQ, fun _ q => stp.trans q⟩
theorem wp_ldcS {text : String} {idx n : Nat} (hd : Dc bytes pc (.ldc idx) 2 pc') (hbt : b = some none) (w : (Cond.stringLink own idx text).before a0 Z = true) (wS : ∀ a ∈ Bundle.stringAtoms, a.before a0 Z = true) (hn : 4 * text.toList.length ≤ n) (hbig : n ≤ 536870912) (hc : k + 2 ≤ R.cells) (hl : j + (n + 4) ≤ R.slots) (hr : ∀ a, Wp b l Z own nm bytes maxL ret R H (k + 2) (j + (n + 4)) pc' Ls (.ref a :: st) Q) : Wp b l Z own nm bytes maxL ret R H k j pc Ls st Q := by
  obtain ⟨hd, rfl⟩ := hd
  intro p e s vm0 k0 m args below meth c T L hx hZ hS hk hby hml hown hnm hret X N hH hB
  obtain ⟨a, T', h', k1, X', e', E', hS', hk1, hZ', hown', stp⟩ := ldcS X hx hZ hown w wS rfl hS hk (g := mkF m pc Ls st) rfl (hb hby hd) hn hbig hc hl
  subst e'
  obtain ⟨T2, v, L2, k2, j2, vm1, k3, H2, ⟨r0, r1, r2⟩, r3, ⟨r4, r5, r6⟩, r7, r8, r9, r10, r11⟩ := hr a p e s T'.vm k1 m args below meth c T' L hx hZ' hS' hk1 hby hml hown' hnm hret X' N (hH.ext E') (fun _ q => by rw [hbt] at q; cases q)
  exact ⟨T2, v, L2, k2, j2, vm1, k3, H2, ⟨r0, r1, fun q => by rw [hbt] at q; cases q⟩, r3, ⟨r4, r5, Nat.le_trans E'.1 r6⟩, r7, r8, r9, r10, fun fs hl => stp _ (r11 fs hl)⟩
theorem wp_cast {a : Addr} {K : String} {idx : Nat} (hd : Dc bytes pc (.checkcast idx) 3 pc') (w : (Cond.classLink own idx K).before a0 Z = true) (F : ∀ h, Hp Z h H → Ins Z h a K true) (hr : Wp b l Z own nm bytes maxL ret R H k j pc' Ls (.ref a :: st) Q) : Wp b l Z own nm bytes maxL ret R H k j pc Ls (.ref a :: st) Q := by
  obtain ⟨hd, rfl⟩ := hd
  refine Wp.stepH fun p e s m args below meth c T L hx hZ hby hml hown hnm hret X N hH => ?_
  obtain ⟨T', X', e', stp⟩ := castY X hx hZ hown w rfl (F _ hH) (g := mkF m pc Ls (.ref a :: st)) rfl rfl (hb hby hd)
  exact ⟨T', L, k, j, H, _, Ls, .ref a :: st, X', by rw [e']; exact Nat.le_refl _, N, by rw [e']; exact hH, hr, stp⟩
theorem wp_instY {a : Addr} {K : String} {idx : Nat} (hd : Dc bytes pc (.instanceof idx) 3 pc') (w : (Cond.classLink own idx K).before a0 Z = true) (F : ∀ h, Hp Z h H → Ins Z h a K true) (hr : Wp b l Z own nm bytes maxL ret R H k j pc' Ls (.int 1 :: st) Q) : Wp b l Z own nm bytes maxL ret R H k j pc Ls (.ref a :: st) Q := by
  obtain ⟨hd, rfl⟩ := hd
  refine Wp.stepH fun p e s m args below meth c T L hx hZ hby hml hown hnm hret X N hH => ?_
  obtain ⟨T', X', e', stp⟩ := instY X hx hZ hown w rfl (F _ hH) (g := mkF m pc Ls (.ref a :: st)) rfl rfl (hb hby hd)
  exact ⟨T', L, k, j, H, _, Ls, .int 1 :: st, X', by rw [e']; exact Nat.le_refl _, N, by rw [e']; exact hH, hr, stp⟩
theorem wp_instN {a : Addr} {C K : String} {idx : Nat} (hd : Dc bytes pc (.instanceof idx) 3 pc') (w : (Cond.classLink own idx K).before a0 Z = true) (E : ExaAt Z H a C) (F : ∃ c t, Z.vm.findClass C = some c ∧ Z.vm.findClass K = some t ∧ Z.vm.assignable c t = false) (hr : Wp b l Z own nm bytes maxL ret R H k j pc' Ls (.int 0 :: st) Q) : Wp b l Z own nm bytes maxL ret R H k j pc Ls (.ref a :: st) Q := by
  obtain ⟨hd, rfl⟩ := hd
  refine Wp.stepH fun p e s m args below meth c T L hx hZ hby hml hown hnm hret X N hH => ?_
  obtain ⟨T', X', e', stp⟩ := instNo X hx hZ hown w rfl (E _ hH) F (g := mkF m pc Ls (.ref a :: st)) rfl rfl (hb hby hd)
  exact ⟨T', L, k, j, H, _, Ls, .int 0 :: st, X', by rw [e']; exact Nat.le_refl _, N, by rw [e']; exact hH, hr, stp⟩
theorem wp_anewarray {C : String} {idx : Nat} {n : Int32} (cnt cap : Nat) (hd : Dc bytes pc (.anewarray idx) 3 pc') (w1 : (Cond.classLink own idx C).before a0 Z = true) (w2 : (Cond.arrayOver (.object C)).before a0 Z = true) (hn : ¬ n < 0) (hcnt : n.toNatClampNeg = cnt) (hcap : cnt ≤ cap) (hb8 : cap * 8 ≤ 536870912) (hc : k + 1 ≤ R.cells) (hl : j + cap ≤ R.slots) (hr : ∀ a, Wp b l Z own nm bytes maxL ret R ((a, oR C (.object C) (List.replicate cnt .null)) :: H) (k + 1) (j + cap) pc' Ls (.ref a :: st) Q) : Wp b l Z own nm bytes maxL ret R H k j pc Ls (.int n :: st) Q := by
  obtain ⟨hd, rfl⟩ := hd
  refine Wp.stepH fun p e s m args below meth c T L hx hZ hby hml hown hnm hret X N hH => ?_
  obtain ⟨T', h', cA, X', e', E', A', B', O', stp⟩ := newRE X hx hZ hown w1 w2 rfl (g := mkF m pc Ls (.int n :: st)) rfl (hb hby hd) rfl hn (cap := cap) (by rw [hcnt]; exact hcap) hb8 hc hl rfl
  subst e'
  refine ⟨T', L, _, _, _, _, Ls, _, X', E'.1, N, hH.cons E' (o := .inr (.inr (.inr (_, _, List.replicate cnt .null)))) ⟨B', _, A', O', ?_, fun v hv => ?_⟩, hr _, stp⟩
  · simp [newA, hcnt, defaultValue]
  · rw [(List.mem_replicate.mp hv).2]; rfl
theorem Sto.ofT {h : Heap} {a y : Addr} {cl : Cell} {ty ty' : FieldType} {C : String} (A : Arr Z h a cl ty') (O : OvrT Z cl.cls C ty) (I : Ins Z h y C true) : Sto Z h a (.ref y) := by
  obtain ⟨k, comp, o1, o2, o3⟩ := O
  obtain ⟨cv, cT, i1, i2, i3⟩ := I
  cases o3.symm.trans i2
  simp only [Bool.and_eq_true, Bool.not_eq_true'] at i3
  obtain ⟨kc, q⟩ := Vm.classAt_of_findClass o3
  obtain ⟨kv, q2⟩ := Vm.classAt_of_assignable i3.2 ⟨kc, q⟩
  exact Or.inr ⟨cl, cv, k, kv, kc, _, _, y, A.1, o1, o2, q, rfl, i1, i3.1, q2, i3.2⟩
theorem wp_aastore {i : Nat} {a : Addr} {C : String} {ty : FieldType} {xs : List Value} {n : Int32} {x : Value} (m : Nat) (hd : Dc bytes pc .aastore 1 pc') (hi : H[i]? = some (a, oR C ty xs)) (hty : ty.isReference = true) (hn : ¬ n < 0) (hm : n.toNatClampNeg = m) (hin : m < xs.length) (F : x = .null ∨ ∃ y, x = .ref y ∧ ∀ h, Hp Z h H → Ins Z h y C true) (hr : Wp b l Z own nm bytes maxL ret R (H.set i (a, oR C ty (xs.set m x))) k j pc' Ls st Q) : Wp b l Z own nm bytes maxL ret R H k j pc Ls (x :: .int n :: .ref a :: st) Q := by
  obtain ⟨hd, rfl⟩ := hd
  refine Wp.stepH fun p e s mm args below meth c T L hx hZ hby hml hown hnm hret X N hH => ?_
  subst hm
  obtain ⟨Eq, cl, A, O, hs, G⟩ := (hH.at hi).2
  obtain ⟨h1, -⟩ := in_of hs hn (v := xs[n.toNatClampNeg]) (by simp [hin])
  have S : Sto Z T.heap a x := by
    rcases F with rfl | ⟨y, rfl, F⟩
    · exact Or.inl rfl
    · exact Sto.ofT A O (F _ hH)
  obtain ⟨T', h', X', e', W', stp⟩ := stR X hx hZ rfl A h1 hty S (g := mkF mm pc Ls (x :: .int n :: .ref a :: st)) rfl rfl (hb hby hd)
  subst e'
  exact ⟨T', _, k, j, _, _, Ls, st, X', by rw [W'.size]; exact Nat.le_refl _, Fr.snoc X' N ((hH.at hi).1 rfl), hH.set hi W' (o' := .inr (.inr (.inr (C, ty, xs.set n.toNatClampNeg x)))) ⟨Eq.wr W', _, A.same W', O, setSlot_list hs, fun y hy => (List.mem_or_eq_of_mem_set hy).elim (G y) fun q => by rw [q]; rcases F with rfl | ⟨y, rfl, F⟩ <;> rfl⟩, hr, stp⟩
theorem sta_of {args : Array Value} {s : State} {C n d K : String} (h : (Cond.exactly (Term.static C n d) K).value args s none s [] = some true) (wi : (Cond.initialized C).before args s = true) (wl : (Cond.laysStatic C n d).before args s = true) : ∃ a, Sta s s.heap C n d (.ref a) ∧ Exa s s.heap a K ∧ (Term.static C n d).eval args s none [] s = some (.ref a) := by
  obtain ⟨a, e⟩ := exa_v h
  exact ⟨a, Sta.start e (Or.inr ⟨wi, wl⟩), Exa.start e h, e⟩
theorem fld_of {args : Array Value} {s : State} {t : Term} {a : Addr} {C n d : String} {v : Int32} (e : t.eval args s none [] s = some (.ref a)) (h : (Cond.eq (Term.field t C n d) (Term.int v)).value args s none s [] = some true) : Fld s s.heap a C n d (.int v) :=
  Fld.start ((fld_at e).symm.trans (Cond.eq_int (Cond.before_iff.mpr h) rfl))
theorem Sat.keep {h h' : Heap} {b : Addr} {ws : List Addr} (K : Keep h h' ws) (q : b ∉ ws) : ∀ {o : ObjB}, Sat Z h b o → Sat Z h' b o
  | .inl (C, sg, vs), ⟨h1, h2, h3⟩ => ⟨h1.keep K, h2, fun i f v r t => (h3 i f v r t).keep K q⟩
  | .inr (.inl (ty, xs)), ⟨r, c, h1, h2⟩ => ⟨r.imp id (·.keep K), c, ⟨K.2.1 _ _ h1.1 q, h1.2⟩, h2⟩
  | .inr (.inr (.inl xs)), ⟨r, c, h1, h2⟩ => ⟨r.keep K, c, ⟨K.2.1 _ _ h1.1 q, h1.2⟩, h2⟩
  | .inr (.inr (.inr (C, ty, vs))), ⟨r, c, h1, h2⟩ => ⟨r.keep K, c, ⟨K.2.1 _ _ h1.1 q, h1.2⟩, h2⟩
theorem Hp.setK {h h' : Heap} (P : Hp Z h H) {i : Nat} {a : Addr} {o o' : ObjB} (q : H[i]? = some (a, (true, o))) (K : Keep h h' [a]) (S : Sat Z h' a o') : Hp Z h' (H.set i (a, (true, o'))) := by
  have g : Z.heap.size ≤ a := (P.at q).1 rfl
  obtain ⟨hi, hq⟩ := List.getElem?_eq_some_iff.mp q
  refine ⟨⟨Nat.le_trans P.1.1 K.1, fun b c r => ?_⟩, fun x hx => ?_, ?_⟩
  · have : b < Z.heap.size := (Array.getElem?_eq_some_iff.mp r).1
    exact K.2.1 _ _ (P.1.2 b c r) (ninS (by rintro rfl; exact absurd this (Nat.not_lt.mpr g)) nin0)
  · obtain ⟨n, hn⟩ := List.getElem?_of_mem hx
    rw [List.getElem?_set] at hn
    split at hn
    · have e0 : (a, (true, o')) = x := by simpa [hi] using hn
      subst e0; exact ⟨fun _ => g, S⟩
    · rename_i ne
      exact ⟨(P.at hn).1, (P.at hn).2.keep K (ninS (P.ne hn q (Or.inr rfl) (Ne.symm ne)) nin0)⟩
  · have e : (H.set i (a, (true, o'))).map (fun x => (x.1, x.2.1)) = H.map (fun x => (x.1, x.2.1)) := by
      rw [List.map_set]
      refine List.ext_getElem? fun n => ?_
      rw [List.getElem?_set]
      split
      · rename_i e; subst e
        simp [hi, hq]
      · rfl
    have h1 : (H.map (fun x => (x.1, x.2.1))).Pairwise (fun u v => (u.2 = true ∨ v.2 = true) → u.1 ≠ v.1) := List.pairwise_map.mpr P.2.2
    rw [← e] at h1
    exact List.pairwise_map.mp h1
theorem nat_i32 {n : Nat} (h : n < 2 ^ 31) : (Int32.ofNat n).toNatClampNeg = n ∧ ¬ Int32.ofNat n < 0 := by
  have e : (Int32.ofNat n).toInt = n := Int32.toInt_ofNat_of_lt h
  refine ⟨by simp only [Int32.toNatClampNeg, e]; omega, ?_⟩
  rw [Int32.lt_iff_toInt_lt, e]; simp only [Int32.reduceToInt]; omega
theorem Sat.arv {h : Heap} {a : Addr} {ty : FieldType} {xs : List Int32} (S : Sat Z h a (.inr (.inl (ty, xs)))) (hl : xs.length < 2 ^ 31) : ∃ kc, Arv Z h a kc ty (Int32.ofNat xs.length) (xs.map Value.int) (.int 0) := by
  obtain ⟨-, c, A, hs, G⟩ := S
  refine ⟨c.cls, c, A, rfl, by rw [hs, (nat_i32 hl).1]; simp, (nat_i32 hl).2, fun i hi => ?_, fun i hi => ?_⟩
  · rw [hs] at hi ⊢; simp at hi; simp [hi]
  · rw [hs] at hi; simp at hi; simp [hi, G _ (List.getElem_mem hi)]
theorem Arv.sat {h : Heap} {a : Addr} {kc : ClassId} {ty : FieldType} {xs : List Int32} (V : Arv Z h a kc ty (Int32.ofNat xs.length) (xs.map Value.int) (.int 0)) (hl : xs.length < 2 ^ 31) (Eq : ty = .byte ∨ Exa Z h a ("[" ++ ty.toString)) : Sat Z h a (.inr (.inl (ty, xs))) := by
  obtain ⟨c, A, -, S, -, Hs, G⟩ := V
  rw [(nat_i32 hl).1] at S
  refine ⟨Eq, c, A, ?_, fun x hx => ?_⟩
  · refine Array.ext_getElem? fun i => ?_
    by_cases hi : i < c.slots.size
    · rw [Hs i hi]; rw [S] at hi; simp [hi]
    · rw [Array.getElem?_eq_none (Nat.le_of_not_lt hi)]; rw [S] at hi; symm; simp; omega
  · obtain ⟨i, hi, rfl⟩ := List.getElem_of_mem hx
    have := G i (by rw [S]; exact hi)
    simpa [hi] using this
theorem wp_arraycopyI {i i' : Nat} {a c' : Addr} {fl : Bool} {ty : FieldType} {xs ys : List Int32} {sp dp nn : Int32} {idx : Nat} (m1 m2 m3 : Nat) (hd : Dc bytes pc (.invokestatic idx) 3 pc') (w1 : (Cond.methodLink own idx Jvm.Stand.acN).before a0 Z = true) (w2 : (Cond.native Jvm.Stand.acN).before a0 Z = true) (w3 : (Cond.static Jvm.Stand.acN).before a0 Z = true) (w4 : (Cond.initialized "java/lang/System").before a0 Z = true) (hi : H[i]? = some (a, (fl, .inr (.inl (ty, xs))))) (hi' : H[i']? = some (c', oA ty ys)) (hp : refKind ty = false) (h1 : ¬ sp < 0) (h2 : ¬ dp < 0) (h3 : ¬ nn < 0) (e1 : sp.toNatClampNeg = m1) (e2 : dp.toNatClampNeg = m2) (e3 : nn.toNatClampNeg = m3) (h4 : m1 + m3 ≤ xs.length) (h5 : m2 + m3 ≤ ys.length) (hx31 : xs.length < 2 ^ 31) (hy31 : ys.length < 2 ^ 31) (hsz : Ls.size = maxL) (hf : 1 ≤ R.frames) (hl : (st.map fun v => v.category).sum + (nativeFrameWords "java/lang/System" "arraycopy" 5 + 11) ≤ R.locals) (hr : Wp b l Z own nm bytes maxL ret R (H.set i' (c', oA ty (ys.take m2 ++ (xs.drop m1).take m3 ++ ys.drop (m2 + m3)))) k j pc' Ls st Q) : Wp b l Z own nm bytes maxL ret R H k j pc Ls (.int nn :: .int dp :: .ref c' :: .int sp :: .ref a :: st) Q := by
  obtain ⟨hd, rfl⟩ := hd
  subst e1 e2 e3
  refine Wp.stepH fun p e s m args below meth c T L hx hZ hby hml hown hnm hret X N hH => ?_
  obtain ⟨kc, V1⟩ := (hH.at hi).2.arv hx31
  obtain ⟨kd, V2⟩ := (hH.at hi').2.arv hy31
  obtain ⟨T', h', L', X', e', N', K', V', stp⟩ := cpA X hx hZ hown w1 w2 w3 w4 rfl V1 V2 (Or.inl ⟨rfl, hp⟩) h1 h2 h3 (by rw [(nat_i32 hx31).1]; exact h4) (by rw [(nat_i32 hy31).1]; exact h5) (us := ((xs.drop sp.toNatClampNeg).take nn.toNatClampNeg).map Value.int) (by
    refine List.ext_getElem? fun n => ?_
    simp only [List.getElem?_map, List.getElem?_range]
    by_cases hn : n < nn.toNatClampNeg
    · simp [hn, show sp.toNatClampNeg + n < xs.length by omega]
    · simp [hn]; omega) (by simpa using h5) N ((hH.at hi').1 rfl) (g := mkF m pc Ls (.int nn :: .int dp :: .ref c' :: .int sp :: .ref a :: st)) rfl (by rw [hml]; exact hsz) rfl (hb hby hd) hf (W := (st.map fun v => v.category).sum) (by show 2 * 0 + _ ≤ _; omega) hl
  subst e'
  have hlen : (ys.take dp.toNatClampNeg ++ (xs.drop sp.toNatClampNeg).take nn.toNatClampNeg ++ ys.drop (dp.toNatClampNeg + nn.toNatClampNeg)).length = ys.length := by
    simp only [List.length_append, List.length_take, List.length_drop]; omega
  refine ⟨T', L', k, j, _, _, Ls, st, X', K'.1, N', hH.setK hi' K' (Arv.sat (kc := kd) ?_ (by rw [hlen]; exact hy31) ((hH.at hi').2.1.imp id (·.keep K'))), hr, stp⟩
  rw [hlen]
  simpa [List.map_append, List.map_take, List.map_drop] using V'
theorem wp_anewarrayA {C : String} {ty : FieldType} {idx : Nat} {n : Int32} (cnt cap : Nat) (hd : Dc bytes pc (.anewarray idx) 3 pc') (hC : (FieldType.array ty).toString = C) (w1 : (Cond.classLink own idx C).before a0 Z = true) (w2 : (Cond.arrayOver (.array ty)).before a0 Z = true) (hn : ¬ n < 0) (hcnt : n.toNatClampNeg = cnt) (hcap : cnt ≤ cap) (hb8 : cap * 8 ≤ 536870912) (hc : k + 1 ≤ R.cells) (hl : j + cap ≤ R.slots) (hr : ∀ a, Wp b l Z own nm bytes maxL ret R ((a, oR C (.array ty) (List.replicate cnt .null)) :: H) (k + 1) (j + cap) pc' Ls (.ref a :: st) Q) : Wp b l Z own nm bytes maxL ret R H k j pc Ls (.int n :: st) Q := by
  obtain ⟨hd, rfl⟩ := hd
  refine Wp.stepH fun p e s m args below meth c T L hx hZ hby hml hown hnm hret X N hH => ?_
  obtain ⟨T', h', cA, X', e', E', A', B', O', stp⟩ := newRA X hx hZ hown hC w1 w2 rfl (g := mkF m pc Ls (.int n :: st)) rfl (hb hby hd) rfl hn (cap := cap) (by rw [hcnt]; exact hcap) hb8 hc hl rfl
  subst e'
  refine ⟨T', L, _, _, _, _, Ls, _, X', E'.1, N, hH.cons E' (o := .inr (.inr (.inr (C, .array ty, List.replicate cnt .null)))) ⟨by rw [hC]; exact B', _, A', O', ?_, fun v hv => ?_⟩, hr _, stp⟩
  · simp [newA, hcnt, defaultValue]
  · rw [(List.mem_replicate.mp hv).2]; rfl
theorem ins_arr {i : Nat} {a : Addr} {fl : Bool} {ty : FieldType} {xs : List Int32} {K : String} (hi : H[i]? = some (a, (fl, .inr (.inl (ty, xs))))) (hty : ty ≠ .byte) (wc : (Cond.castable ("[" ++ ty.toString) K).before a0 Z = true) : ∀ h, Hp Z h H → Ins Z h a K true := fun h P => Ins.of_exa ((P.at hi).2.1.resolve_left hty) wc
theorem ins_new {i : Nat} {a : Addr} {fl : Bool} {C K : String} {sg : OSig} {vs : List Value} (hi : H[i]? = some (a, (fl, .inl (C, sg, vs)))) (wc : (Cond.castable C K).before a0 Z = true) : ∀ h, Hp Z h H → Ins Z h a K true := fun h P => Ins.of_exa (P.at hi).2.1 wc
theorem ns_root {O K : String} {kk : Nat} (w : (Cond.noSuperclass O).before a0 Z = true) (wk : (Cond.instantiable K kk).before a0 Z = true) (hn : O ≠ K) : NS Z O K := by
  obtain ⟨c, k, h1, h2, h3, -, -⟩ := Cond.noSuperclass_spec w
  obtain ⟨t, kt, g1, -⟩ := Cond.instantiable_spec wk
  have ne := ids_ne h1 g1 hn
  refine ⟨c, t, h1, g1, fun fuel => ?_⟩
  cases fuel with
  | zero => rfl
  | succ f => simp [Vm.isSubclassAux, ne, h2, h3]
theorem ns_no {C S K : String} {kk : Nat} (w : (Cond.superclass C S).before a0 Z = true) (wk : (Cond.instantiable K kk).before a0 Z = true) (n : NS Z C K) (hn : C ≠ K) : ∃ c t, Z.vm.findClass C = some c ∧ Z.vm.findClass K = some t ∧ Z.vm.assignable c t = false := by
  obtain ⟨c, t, h0, g0, n3⟩ := n
  obtain ⟨p, k, kp, h1, h2, h3, h4, h5, -, h7⟩ := Cond.superclass_spec h0 w
  obtain ⟨t', kt, g1, g2, g5, g6, -⟩ := Cond.instantiable_spec wk
  cases g0.symm.trans g1
  have g7 : kt.isInterface = false := by cases q : kt.isInterface with | false => rfl | true => rw [q] at g6; cases g6
  have ne := ids_ne h0 g0 hn
  refine ⟨c, t, h0, g0, ?_⟩
  show Z.vm.assignableAux (255 + 1) c t = false
  simp [Vm.assignableAux, ne, h2, g2, h5, g5, g7, Vm.isSubclass, n3]
theorem wp_aaload_old {a : Addr} {cl : Cell} {ty : FieldType} {n : Int32} {x : Value} (hd : Dc bytes pc .aaload 1 pc') (A : Arr Z Z.heap a cl ty) (hty : ty.isReference = true) (hin : ¬ (n < 0 ∨ cl.slots.size ≤ n.toNatClampNeg)) (hv : cl.slots[n.toNatClampNeg]? = some x) (hr : Wp b l Z own nm bytes maxL ret R H k j pc' Ls (x :: st) Q) : Wp b l Z own nm bytes maxL ret R H k j pc Ls (.int n :: .ref a :: st) Q := by
  obtain ⟨hd, rfl⟩ := hd
  refine Wp.step (fun p e s m args below meth c T L hx hZ hby hown X hH target h => ?_) hr
  exact X.aaload hx (hH.1.2 _ _ A.1) (State.isArrayOf_alike hZ.alike A.2.1) hty A.2.2 hin hv (g := mkF m pc Ls (.int n :: .ref a :: st)) rfl rfl (hb hby hd) _ h
theorem Hp.old {h : Heap} (P : Hp Z h H) {a : Addr} {o : ObjB} (S : Sat Z Z.heap a o) : Hp Z h ((a, (false, o)) :: H) :=
  ⟨P.1, fun x q => (List.mem_cons.mp q).elim (fun e => by subst e; exact ⟨(fun e => nomatch e), S.ext P.1⟩) fun q => P.2.1 x q,
    List.Pairwise.cons (fun y q t e => absurd ((P.2.1 y q).1 (t.elim (fun e => nomatch e) id)) (by rw [← e]; exact Nat.not_le.mpr S.lt)) P.2.2⟩
/-- an object of the start is laid to the list, only to be read -/
theorem Wp.old {a : Addr} {o : ObjB} (S : Sat Z Z.heap a o) (hr : Wp b l Z own nm bytes maxL ret R ((a, (false, o)) :: H) k j pc Ls st Q) : Wp b l Z own nm bytes maxL ret R H k j pc Ls st Q :=
  Wp.stepH fun p e s m args below meth c T L hx hZ hby hml hown hnm hret X N hH => ⟨T, L, k, j, _, pc, Ls, st, X, Nat.le_refl _, N, hH.old S, hr, fun _ q => q⟩
abbrev sgStr : OSig := [("java/lang/String", "value", "[B"), ("java/lang/String", "coder", "B")]
abbrev strO (v : Addr) : Obj := fI "java/lang/String" sgStr [.ref v, .int 0]
theorem wp_ldcV {text : String} {Ts : List String} {idx n : Nat} (xs : List Int32) (hd : Dc bytes pc (.ldc idx) 2 pc') (w : (Cond.stringLink own idx text).before a0 Z = true) (wS : ∀ a ∈ Bundle.stringAtoms, a.before a0 Z = true) (slo : Slo Z sgStr) (hh : Jvm.Lit.constHeld Z own idx) (hcw : Jvm.Lit.compactW.before a0 Z = true) (hnot : text ∉ Ts) (ht : (∀ c ∈ text.toList, c.toNat < 256) ∧ text.toList.map (fun c => Value.int (Jvm.Lit.byteI c.toNat.toUInt16)) = xs.map Value.int) (h31 : xs.length < 2 ^ 31) (hn : 4 * text.toList.length ≤ n) (hbig : n ≤ 536870912) (hc : k + 2 ≤ R.cells) (hl : j + (n + 4) ≤ R.slots) (hr : ∀ a v, Wp (some (some (text :: Ts))) l Z own nm bytes maxL ret R ((a, strO v) :: (v, fA .byte xs) :: H) (k + 2) (j + (n + 4)) pc' Ls (.ref a :: st) Q) : Wp (some (some Ts)) l Z own nm bytes maxL ret R H k j pc Ls st Q := by
  obtain ⟨hd, rfl⟩ := hd
  intro p e s vm0 k0 m args below meth c T L hx hZ hS hk hby hml hown hnm hret X N hH hB
  obtain ⟨eZ, I⟩ := hB Ts rfl
  obtain ⟨a, T', h', k1, v, kc, X', e', E', hS', hk1, hZ', hown', A1, A2, A3, A4, l1, l2, I', -, wh, stp⟩ := ldcSVd X hx hZ hown w wS rfl hS hk (by rw [eZ]; exact N) (fun b cl q => by rw [eZ]; exact q) I hnot hh hcw (z := Int32.ofNat xs.length) ht (nat_i32 h31).2 (by rw [(nat_i32 h31).1]; simp) (g := mkF m pc Ls st) rfl (hb hby hd) hn hbig hc hl
  subst e'
  have far : ∀ y ∈ H, y.2.1 = true → a ≠ y.1 ∧ v ≠ y.1 := by
    intro y q t
    have g1 := (hH.2.1 y q).1 t
    have g2 := (hH.2.1 y q).2.lt
    rw [eZ] at wh
    constructor
    · intro e0; rw [← e0] at g1 g2
      rcases wh with w1 | w1
      · exact absurd w1.1 (Nat.not_lt.mpr g1)
      · exact absurd g2 (Nat.not_lt.mpr w1.1)
    · intro e0; rw [← e0] at g1 g2
      rcases wh with w1 | w1
      · exact absurd w1.2 (Nat.not_lt.mpr g1)
      · exact absurd g2 (Nat.not_lt.mpr w1.2)
  have Sa : Sat Z T'.heap a (.inl ("java/lang/String", sgStr, [.ref v, .int 0])) := by
    refine ⟨A1, slo, fun i f u q r => ?_⟩
    rcases i with _ | _ | i
    · cases q; cases r; exact A3
    · cases q; cases r; exact A2
    · simp at q
  have Sv : Sat Z T'.heap v (.inr (.inl (.byte, xs))) := Arv.sat A4 h31 (Or.inl rfl)
  have H2 : Hp Z T'.heap ((a, strO v) :: (v, fA .byte xs) :: H) := by
    have h0 := hH.ext E'
    refine ⟨h0.1, fun x q => ?_, List.Pairwise.cons (fun y q t => ?_) (List.Pairwise.cons (fun y q t => ?_) h0.2.2)⟩
    · rcases List.mem_cons.mp q with rfl | q
      · exact ⟨(fun e => nomatch e), Sa⟩
      · rcases List.mem_cons.mp q with rfl | q
        · exact ⟨(fun e => nomatch e), Sv⟩
        · exact h0.2.1 x q
    · rcases List.mem_cons.mp q with rfl | q
      · rcases t with t | t <;> cases t
      · exact (far y q (t.elim (fun e => nomatch e) id)).1
    · exact (far y q (t.elim (fun e => nomatch e) id)).2
  obtain ⟨T2, u, L2, k2, j2, vm1, k3, H3, ⟨r0, r1, r2⟩, r3, ⟨r4, r5, r6⟩, r7, r8, r9, r10, r11⟩ := hr a v p e s T'.vm k1 m args below meth c T' L hx hZ' hS' hk1 hby hml hown' hnm hret X' N H2 (fun Ts' q => by cases q; exact ⟨eZ, I'⟩)
  exact ⟨T2, u, L2, k2, j2, vm1, k3, H3, ⟨r0, r1, fun q => nomatch q⟩, r3, ⟨r4, r5, Nat.le_trans E'.1 r6⟩, r7, r8, r9, r10, fun fs hl => stp _ (r11 fs hl)⟩
theorem Fld.fun {h : Heap} {a : Addr} {C n d : String} {u v : Value} (F : Fld Z h a C n d u) (G : Fld Z h a C n d v) : u = v := by
  obtain ⟨c, cf, k, i, f, h1, h2, -, -, -, -, h7⟩ := F
  obtain ⟨c', cf', k', i', f', g1, g2, -, -, -, -, g7⟩ := G
  cases h1.symm.trans g1
  cases h2.symm.trans g2
  exact Option.some.inj (h7.symm.trans g7)
/-- two Strings of unlike contents are two -/
theorem str_ne {h : Heap} {i i' k k' : Nat} {s s' v v' : Addr} {xs ys : List Int32} (P : Hp Z h H) (h1 : H[i]? = some (s, strO v)) (h2 : H[k]? = some (v, fA .byte xs)) (h3 : H[i']? = some (s', strO v')) (h4 : H[k']? = some (v', fA .byte ys)) (ne : xs ≠ ys) : ¬ Value.ref s = Value.ref s' := by
  intro e
  cases e
  have f1 := (P.at h1).2.2.2 0 _ _ rfl rfl
  have f2 := (P.at h3).2.2.2 0 _ _ rfl rfl
  cases Fld.fun f1 f2
  obtain ⟨-, c, A, hs, -⟩ := (P.at h2).2
  obtain ⟨-, c', A', hs', -⟩ := (P.at h4).2
  cases A.1.symm.trans A'.1
  have e0 : xs.map Value.int = ys.map Value.int := congrArg Array.toList (hs.symm.trans hs')
  exact ne (List.map_inj_right (fun a b q => by cases q; rfl) |>.mp e0)
theorem bytes_old {t : Term} {a : Addr} {xs : List Int32} {cl : Cell} (A : Arr Z Z.heap a cl .byte) (hs : cl.slots = (xs.map Value.int).toArray) (hf : ∀ x ∈ xs, fits .byte (.int x) = true) : Sat Z Z.heap a (.inr (.inl (.byte, xs))) := ⟨Or.inl rfl, cl, A, hs, hf⟩
theorem str_old {a v : Addr} (slo : Slo Z sgStr) (E : Exa Z Z.heap a "java/lang/String") (F : Fld Z Z.heap a "java/lang/String" "value" "[B" (.ref v)) (G : Fld Z Z.heap a "java/lang/String" "coder" "B" (.int 0)) : Sat Z Z.heap a (.inl ("java/lang/String", sgStr, [.ref v, .int 0])) := by
  refine ⟨E, slo, fun i f u q r => ?_⟩
  rcases i with _ | _ | i
  · cases q; cases r; exact F
  · cases q; cases r; exact G
  · simp at q
/-- the contract of a body with an exception table (the walk throws nothing) -/
def MetX (l : Launch) (Z : State) (y : MethodName) (bytes : ByteArray) (maxL : Nat) (ret : Option FieldType) (hs : List (Nat × Nat × Nat × Nat)) (rm : Room) (as' : List Value) (H : OH) (Q : Option Value → OH → Prop) : Prop :=
  ∀ (ws : List Jvm.Cond) (h : Heap), Hp Z h H → MetFree l y (head1 (Jvm.Cond.codeWith y bytes maxL ret hs :: ws) rm) (fun a U => a = as'.toArray ∧ Z.Warmed39 U.vm ∧ U.heap = h) (fun _ _ _ _ _ => True)
    (fun _ U o U' => ∃ v L, o = .returned v ∧ (Fr Z.heap.size L ∧ h.size ≤ U'.heap.size ∧ ∃ H', Hp Z U'.heap H' ∧ Q v H') ∧ FrameEnd U o U' L rm.cells rm.slots)
theorem MetX.of_wp {y : MethodName} {hs : List (Nat × Nat × Nat × Nat)} {rm : Room} {as' : List Value} (hx : plainFor y = true) (hef : ∀ m, entryFrame m as'.toArray maxL = mkF m 0 Ls []) (hw : Wp none l Z y.cls y.name bytes maxL ret rm H 0 0 0 Ls [] Q) : MetX l Z y bytes maxL ret hs rm as' H Q := by
  intro ws h hH
  refine MetFree.of_bodySF hx hisWith ?_
  intro p e s m args below meth c s₁ Bd hml0 hP hK
  obtain ⟨rfl, hZ, hh⟩ := hP
  have X0 : Stand p l e rm s m as'.toArray below meth c s₁ [] 0 0 := Stand.of_body Bd
  have e0 : s₁.heap = h := by rw [← hh, Bd.state]; rfl
  obtain ⟨T', v, L', k', j', vm1, k1, H', ⟨hS, hk1, hvm⟩, X', ⟨hc, hj, hsz⟩, N', hH', hv, hQ, stp⟩ := hw p e s s.vm 0 m as'.toArray below meth c s₁ [] Bd.exec hZ ((State.WarmedH.refl s).since 0) (Nat.zero_le _) Bd.bytes hml0 (findClass_of_methodNamed Bd.named) (name_of_methodNamed Bd.named Bd.method).1 Bd.returns X0 (Fr.nil _) (by rw [e0]; exact hH) (fun _ q => nomatch q)
  obtain rfl := hvm rfl
  have X'' : Stand p l e rm s m as'.toArray below meth c T' L' k' j' := X'
  obtain ⟨fs, hr, hrun, hended, hW, hsame⟩ := X''.leave (v := v) (fun h => hv (Bd.returns.symm.trans h))
  refine ⟨_, _, castTop (hef m) (stp fs hr), hrun, hended, v, L', rfl, ⟨N', ?_, H', hH', hQ⟩, ⟨_, rfl⟩, hW, hsame.mono hc hj⟩
  rw [e0] at hsz; exact hsz
theorem wp_virtualX {hs : List (Nat × Nat × Nat × Nat)} {y : MethodName} {bytes' : ByteArray} {maxL' : Nat} {ret' : Option FieldType} {rm : Room} {rest : List Value} {Q' : Option Value → OH → Prop} {idx : Nat} {ps : List FieldType} {rt : Option FieldType} {x : MethodName} {C : String} {a : Addr} {as' : List Value} (M : MetX l Z y bytes' maxL' ret' hs rm (.ref a :: as') H Q') (E : ExaAt Z H a C) (hd : Dc bytes pc (.invokevirtual idx) 3 pc') (w1 : (Cond.methodLink own idx x).before a0 Z = true) (w2 : (Cond.declares x).before a0 Z = true) (wn : (Cond.selects x.cls x x).before a0 Z = true) (ws : (Cond.selects C x y).before a0 Z = true) (wi : (Cond.instanceMethod y).before a0 Z = true) (w3 : (Cond.initialized y.cls).before a0 Z = true) (w4 : (Cond.codeWith y bytes' maxL' ret' hs).before a0 Z = true) (hy : x.cls ≠ "java/lang/invoke/MethodHandle" ∧ x.cls ≠ "java/lang/invoke/VarHandle") (hpd : parseMethodDescriptor x.desc = some ⟨ps, rt⟩) (hlen : as'.length = ps.length) (hst : st = as'.reverse ++ .ref a :: rest) (hsz : Ls.size = maxL) (hf : rm.frames + 1 ≤ R.frames) (hl : (rest.map fun v => v.category).sum + (maxL' + 11) + rm.locals ≤ R.locals) (hc : k + rm.cells ≤ R.cells) (hj : j + rm.slots ≤ R.slots) (hr : ∀ v H', Q' v H' → Wp b l Z own nm bytes maxL ret R H' (k + rm.cells) (j + rm.slots) pc' Ls (v.toList ++ rest) Q) : Wp b l Z own nm bytes maxL ret R H k j pc Ls st Q := by
  obtain ⟨hd, rfl⟩ := hd
  refine Wp.stepH fun p e s m args below meth c T L hx hZ hby hml hown hnm hret X N hH => ?_
  obtain ⟨cq, kq, q1, q2, q3⟩ := isOf hZ rfl (E _ hH)
  obtain ⟨v, _, ⟨T', L', k', n'⟩, -, X', ⟨Lc, ⟨N', hsz', H', hH', hQ⟩, l1, y1, z1⟩, stp⟩ := X.virtualBack hx (y := x) (z := y) hown (mvT hZ w1) (mvT hZ w2) (notFace_of_selects (args := #[]) (mvT hZ wn)) (mvT hZ ws) (mvT hZ wi) hy (backOfWith (W := (rest.map fun v => v.category).sum) (Q := fun v h L => Fr Z.heap.size L ∧ T.heap.size ≤ h.size ∧ ∃ H', Hp Z h H' ∧ Q' v H') (M [] T.heap hH) hZ w4 w3 hf hl) q1 q3 (g := mkF m pc Ls st) rfl (by rw [hml]; exact hsz) (Steps.refl _) (argsL := as') (rest := rest) (lenOf hpd hlen) hst (by show 2 * 0 + _ ≤ _; omega) (hb hby hd) (fun _ _ => ⟨rfl, rfl, hc, hj⟩)
  dsimp only [Pt.U, Pt.locs, Pt.cells, Pt.slots] at X' l1 y1 z1 stp hH' hsz'
  subst l1 y1 z1
  exact ⟨T', _, _, _, H', _, Ls, v.toList ++ rest, X', hsz', N.app N', hH', hr v H' hQ, fun _ q => stp.trans q⟩
theorem wp_callSX {hs : List (Nat × Nat × Nat × Nat)} {y : MethodName} {bytes' : ByteArray} {maxL' : Nat} {ret' : Option FieldType} {rm : Room} {rest : List Value} {Q' : Option Value → OH → Prop} {idx : Nat} {ps : List FieldType} {rt : Option FieldType} {as' : List Value} (M : MetX l Z y bytes' maxL' ret' hs rm as' H Q') (hd : Dc bytes pc (.invokestatic idx) 3 pc') (w1 : (Cond.methodLink own idx y).before a0 Z = true) (w2 : (Cond.static y).before a0 Z = true) (w3 : (Cond.initialized y.cls).before a0 Z = true) (w4 : (Cond.codeWith y bytes' maxL' ret' hs).before a0 Z = true) (hy : y.cls ≠ "java/lang/invoke/MethodHandle" ∧ y.cls ≠ "java/lang/invoke/VarHandle") (hpd : parseMethodDescriptor y.desc = some ⟨ps, rt⟩) (hlen : as'.length = ps.length) (hst : st = as'.reverse ++ rest) (hsz : Ls.size = maxL) (hf : rm.frames + 1 ≤ R.frames) (hl : (rest.map fun v => v.category).sum + (maxL' + 11) + rm.locals ≤ R.locals) (hc : k + rm.cells ≤ R.cells) (hj : j + rm.slots ≤ R.slots) (hr : ∀ v H', Q' v H' → Wp b l Z own nm bytes maxL ret R H' (k + rm.cells) (j + rm.slots) pc' Ls (v.toList ++ rest) Q) : Wp b l Z own nm bytes maxL ret R H k j pc Ls st Q := by
  obtain ⟨hd, rfl⟩ := hd
  refine Wp.stepH fun p e s m args below meth c T L hx hZ hby hml hown hnm hret X N hH => ?_
  obtain ⟨v, _, ⟨T', L', k', n'⟩, -, X', ⟨Lc, ⟨N', hsz', H', hH', hQ⟩, l1, y1, z1⟩, stp⟩ := Jvm.RoadKit.callSH X hx (y := y) hown (mvT hZ w1) (mvT hZ w2) (mvT hZ w3) (mvT hZ w4) hy (backOfWith (W := (rest.map fun v => v.category).sum) (Q := fun v h L => Fr Z.heap.size L ∧ T.heap.size ≤ h.size ∧ ∃ H', Hp Z h H' ∧ Q' v H') (M [] T.heap hH) hZ w4 w3 hf hl) (g := mkF m pc Ls st) rfl (by rw [hml]; exact hsz) (argsL := as') (rest := rest) (lenOf hpd hlen) hst (by show 2 * 0 + _ ≤ _; omega) (hb hby hd) (fun _ _ => ⟨rfl, rfl, hc, hj⟩)
  dsimp only [Pt.U, Pt.locs, Pt.cells, Pt.slots] at X' l1 y1 z1 stp hH' hsz'
  subst l1 y1 z1
  exact ⟨T', _, _, _, H', _, Ls, v.toList ++ rest, X', hsz', N.app N', hH', hr v H' hQ, stp⟩
theorem wp_dload_n {n : Fin 4} {v : UInt64} (hd : Dc bytes pc (.dload_n n) 1 pc') (hl : Ls[n.val]? = some (.val (.double v))) (hr : Wp b l Z own nm bytes maxL ret R H k j pc' Ls (.double v :: st) Q) : Wp b l Z own nm bytes maxL ret R H k j pc Ls st Q := by
  obtain ⟨hd, rfl⟩ := hd
  exact Wp.step (fun p e s m args below meth c T L hx hZ hby hown X hH target ht => XS.dloadN X.here hx rfl (hb hby hd) hl ht) hr
theorem wp_dload {n : Nat} {v : UInt64} (hd : Dc bytes pc (.dload n) 2 pc') (hl : Ls[n]? = some (.val (.double v))) (hr : Wp b l Z own nm bytes maxL ret R H k j pc' Ls (.double v :: st) Q) : Wp b l Z own nm bytes maxL ret R H k j pc Ls st Q := by
  obtain ⟨hd, rfl⟩ := hd
  exact Wp.step (fun p e s m args below meth c T L hx hZ hby hown X hH target ht => XS.dload X.here hx rfl (hb hby hd) hl ht) hr
theorem wp_dstore_n {n : Fin 4} {x : UInt64} (Ls' : Array Slot) (hd : Dc bytes pc (.dstore_n n) 1 pc') (hl : storeLocals Ls n.val (.double x) = some Ls') (hr : Wp b l Z own nm bytes maxL ret R H k j pc' Ls' st Q) : Wp b l Z own nm bytes maxL ret R H k j pc Ls (.double x :: st) Q := by
  obtain ⟨hd, rfl⟩ := hd
  exact Wp.step (fun p e s m args below meth c T L hx hZ hby hown X hH target ht => XS.dstoreN X.here hx rfl (hb hby hd) rfl hl ht) hr
theorem wp_dstore {n : Nat} {x : UInt64} (Ls' : Array Slot) (hd : Dc bytes pc (.dstore n) 2 pc') (hl : storeLocals Ls n (.double x) = some Ls') (hr : Wp b l Z own nm bytes maxL ret R H k j pc' Ls' st Q) : Wp b l Z own nm bytes maxL ret R H k j pc Ls (.double x :: st) Q := by
  obtain ⟨hd, rfl⟩ := hd
  exact Wp.step (fun p e s m args below meth c T L hx hZ hby hown X hH target ht => XS.dstore X.here hx rfl (hb hby hd) rfl hl ht) hr
theorem wp_dconst0 (v : UInt64) (hd : Dc bytes pc (.dconst 0) 1 pc') (hv : FP.dconst0 = v) (hr : Wp b l Z own nm bytes maxL ret R H k j pc' Ls (.double v :: st) Q) : Wp b l Z own nm bytes maxL ret R H k j pc Ls st Q := by
  obtain ⟨hd, rfl⟩ := hd
  exact Wp.step (fun p e s m args below meth c T L hx hZ hby hown X hH target ht => XS.dconst0 X.here hx rfl (hb hby hd) hv ht) hr
theorem wp_dconst1 (v : UInt64) (hd : Dc bytes pc (.dconst 1) 1 pc') (hv : FP.dconst1 = v) (hr : Wp b l Z own nm bytes maxL ret R H k j pc' Ls (.double v :: st) Q) : Wp b l Z own nm bytes maxL ret R H k j pc Ls st Q := by
  obtain ⟨hd, rfl⟩ := hd
  exact Wp.step (fun p e s m args below meth c T L hx hZ hby hown X hH target ht => XS.dconst1 X.here hx rfl (hb hby hd) hv ht) hr
theorem wp_i2d {x : Int32} (v : UInt64) (hd : Dc bytes pc (.i2d) 1 pc') (hv : FP.i2d x = v) (hr : Wp b l Z own nm bytes maxL ret R H k j pc' Ls (.double v :: st) Q) : Wp b l Z own nm bytes maxL ret R H k j pc Ls (.int x :: st) Q := by
  obtain ⟨hd, rfl⟩ := hd
  exact Wp.step (fun p e s m args below meth c T L hx hZ hby hown X hH target ht => XS.i2dS X.here hx rfl (hb hby hd) rfl hv ht) hr
theorem wp_dadd {x y : UInt64} (v : UInt64) (hd : Dc bytes pc (.dadd) 1 pc') (hn : Jvm.Free.Fl.NoNaN64 (FP.dadd x y)) (hv : FP.dadd x y = v) (hr : Wp b l Z own nm bytes maxL ret R H k j pc' Ls (.double v :: st) Q) : Wp b l Z own nm bytes maxL ret R H k j pc Ls (.double y :: .double x :: st) Q := by
  obtain ⟨hd, rfl⟩ := hd
  exact Wp.step (fun p e s m args below meth c T L hx hZ hby hown X hH target ht => XS.daddS X.here hx rfl (hb hby hd) rfl hn hv ht) hr
theorem wp_ddiv {x y : UInt64} (v : UInt64) (hd : Dc bytes pc (.ddiv) 1 pc') (hn : Jvm.Free.Fl.NoNaN64 (FP.ddiv x y)) (hv : FP.ddiv x y = v) (hr : Wp b l Z own nm bytes maxL ret R H k j pc' Ls (.double v :: st) Q) : Wp b l Z own nm bytes maxL ret R H k j pc Ls (.double y :: .double x :: st) Q := by
  obtain ⟨hd, rfl⟩ := hd
  exact Wp.step (fun p e s m args below meth c T L hx hZ hby hown X hH target ht => XS.ddivS X.here hx rfl (hb hby hd) rfl hn hv ht) hr
theorem wp_dcmp {o : CmpOp} {x y : UInt64} (v : Int32) (hd : Dc bytes pc (.dcmp o) 1 pc') (hv : cmpValue (FP.dcmp x y) o = v) (hr : Wp b l Z own nm bytes maxL ret R H k j pc' Ls (.int v :: st) Q) : Wp b l Z own nm bytes maxL ret R H k j pc Ls (.double y :: .double x :: st) Q := by
  obtain ⟨hd, rfl⟩ := hd
  exact Wp.step (fun p e s m args below meth c T L hx hZ hby hown X hH target ht => XS.dcmpS X.here hx rfl (hb hby hd) rfl hv ht) hr
theorem wp_ldc2D {i : Nat} {v : UInt64} (hd : Dc bytes pc (.ldc2_w i) 3 pc') (w : (Cond.constantDouble own i v).before a0 Z = true) (hr : Wp b l Z own nm bytes maxL ret R H k j pc' Ls (.double v :: st) Q) : Wp b l Z own nm bytes maxL ret R H k j pc Ls st Q := by
  obtain ⟨hd, rfl⟩ := hd
  exact Wp.step (fun p e s m args below meth c T L hx hZ hby hown X hH target ht => X.ldc2DoubleC hx hown (mvT hZ w) (g := mkF m pc Ls st) rfl (hb hby hd) _ ht) hr
theorem wp_dreturn {x : UInt64} (hd : Dc bytes pc .dreturn 1 pc') (hr : ret = some .double) (hk : k ≤ R.cells) (hj : j ≤ R.slots) (hQ : Q (some (.double x)) H) : Wp b l Z own nm bytes maxL ret R H k j pc Ls (.double x :: st) Q :=
  fun p e s vm0 k0 m args below meth c T L hx hZ hS hkz hby hml hown hnm hret X N hH hB => ⟨T, (some (.double x)), L, k, j, vm0, k0, H, ⟨hS, hkz, fun _ => rfl⟩, X, ⟨hk, hj, Nat.le_refl _⟩, N, hH, fun h => by first | rfl | (rw [hr] at h; cases h), hQ, fun fs hl => retOut X hx (hret.trans hr) rfl (Or.inr (Or.inr (Or.inl ⟨rfl, rfl, x, rfl⟩))) (hb hby hd.1) hl⟩
end Own
def sg_1 : OSig := [("com/example/dalles/dalles/schema/Sequence", "qualifiedName", "Ljava/lang/String;"), ("com/example/dalles/dalles/schema/Sequence", "name", "Ljava/lang/String;")]
theorem laid_sg_1 (l : Launch) (Z : State) (a0 : Array Value) (hw : ∀ d ∈ tables_1, d.before a0 Z = true) : ∀ f ∈ sg_1, Laid Z a0 "com/example/dalles/dalles/schema/Sequence" f.1 f.2.1 f.2.2 := all_cons (Or.inr (hw _ (List.mem_of_getElem? (i := 38) rfl))) (all_cons (Or.inr (hw _ (List.mem_of_getElem? (i := 40) rfl))) (all_nil))
theorem dfl_sg_1 : Dfl sg_1 [(.null), (.null)] := ⟨⟨(.object "java/lang/String"), by decide +kernel, rfl⟩, ⟨(.object "java/lang/String"), by decide +kernel, rfl⟩, trivial⟩
def sg_2 : OSig := [("com/example/dalles/dalles/schema/PostgreSqlColumn", "defaultFill", "Lcom/example/dalles/dalles/schema/Fill;"), ("com/example/dalles/dalles/schema/PostgreSqlColumn", "highestValue", "Ljava/util/Optional;"), ("com/example/dalles/dalles/schema/PostgreSqlColumn", "name", "Ljava/lang/String;"), ("com/example/dalles/dalles/schema/PostgreSqlColumn", "type", "Ljava/lang/String;"), ("com/example/dalles/dalles/schema/PostgreSqlColumn", "line", "I"), ("com/example/dalles/dalles/schema/PostgreSqlColumn", "identity", "Lcom/example/dalles/dalles/schema/Sequence;"), ("com/example/dalles/dalles/schema/PostgreSqlColumn", "hasDefault", "Z")]
theorem laid_sg_2 (l : Launch) (Z : State) (a0 : Array Value) (hw : ∀ d ∈ tables_1, d.before a0 Z = true) : ∀ f ∈ sg_2, Laid Z a0 "com/example/dalles/dalles/schema/PostgreSqlColumn" f.1 f.2.1 f.2.2 := all_cons (Or.inl (hw _ (List.mem_of_getElem? (i := 52) rfl))) (all_cons (Or.inl (hw _ (List.mem_of_getElem? (i := 59) rfl))) (all_cons (Or.inr (hw _ (List.mem_of_getElem? (i := 61) rfl))) (all_cons (Or.inr (hw _ (List.mem_of_getElem? (i := 63) rfl))) (all_cons (Or.inr (hw _ (List.mem_of_getElem? (i := 65) rfl))) (all_cons (Or.inl (hw _ (List.mem_of_getElem? (i := 72) rfl))) (all_cons (Or.inl (hw _ (List.mem_of_getElem? (i := 84) rfl))) (all_nil)))))))
theorem dfl_sg_2 : Dfl sg_2 [(.null), (.null), (.null), (.null), (.int (0 : Int32)), (.null), (.int (0 : Int32))] := ⟨⟨(.object "com/example/dalles/dalles/schema/Fill"), by decide +kernel, rfl⟩, ⟨(.object "java/util/Optional"), by decide +kernel, rfl⟩, ⟨(.object "java/lang/String"), by decide +kernel, rfl⟩, ⟨(.object "java/lang/String"), by decide +kernel, rfl⟩, ⟨.int, by decide +kernel, rfl⟩, ⟨(.object "com/example/dalles/dalles/schema/Sequence"), by decide +kernel, rfl⟩, ⟨.boolean, by decide +kernel, rfl⟩, trivial⟩
theorem laid_sgStr (l : Launch) (Z : State) (a0 : Array Value) (hw : ∀ d ∈ tables_1, d.before a0 Z = true) : ∀ f ∈ sgStr, Laid Z a0 "java/lang/String" f.1 f.2.1 f.2.2 := all_cons (Or.inr (hw _ (List.mem_of_getElem? (i := 29) rfl))) (all_cons (Or.inr (hw _ (List.mem_of_getElem? (i := 27) rfl))) all_nil)
theorem dfl_sgStr : Dfl sgStr [.null, .int 0] := ⟨⟨(.array .byte), by decide +kernel, rfl⟩, ⟨.byte, by decide +kernel, rfl⟩, trivial⟩
theorem own_slo (l : Launch) (Z : State) (a0 : Array Value) (hw : ∀ d ∈ tables_1, d.before a0 Z = true) : Slo Z sgStr := slo_of dfl_sgStr (laid_sgStr l Z a0 hw) (by decide)
theorem own_len {args : Array Value} {s : State} {t : Term} {x : Addr} {cl : Cell} {ty : FieldType} {n : Int32} (h : (Cond.eq (Term.length t) (Term.int n)).value args s none s [] = some true) (ht : t.eval args s none [] s = some (.ref x)) (A : Arr s s.heap x cl ty) : cl.slots.size = n.toNatClampNeg := by
  have h' := Cond.eq_int (Cond.before_iff.mpr h) rfl
  have ha : s.arrayAt? x = some cl := Arr.fin (State.Warmed39.refl s).alike A
  by_cases hl : cl.slots.size < 2 ^ 31
  · rw [len_f ht ha hl] at h'
    have e : cl.slots.size.toInt32 = n := by injection (Option.some.inj h')
    rw [← e]; exact (nat_i32 hl).1.symm
  · exfalso
    simp [Term.eval, ht, ha, hl] at h'
theorem own_elem {args : Array Value} {s : State} {t : Term} {x : Addr} {cl : Cell} {ty : FieldType} {i n : Int32} (h : (Cond.eq (Term.elem t (Term.int i)) (Term.int n)).value args s none s [] = some true) (ht : t.eval args s none [] s = some (.ref x)) (A : Arr s s.heap x cl ty) : cl.slots[i.toNatClampNeg]? = some (.int n) :=
  (elem_in (Cond.eq_int (Cond.before_iff.mpr h) rfl) ht (Term.int_eval i) A.1).2
theorem own_str {args : Array Value} {s : State} {u : Term} (slo : Slo s sgStr) (h1 : (Cond.exactly u "java/lang/String").value args s none s [] = some true) (h2 : (Cond.eq (Term.field u "java/lang/String" "coder" "B") (Term.int 0)).value args s none s [] = some true) (h3 : (Cond.arrayOf (Term.field u "java/lang/String" "value" "[B") .byte).value args s none s [] = some true) :
    ∃ a v cl, u.eval args s none [] s = some (.ref a) ∧ Sat s s.heap a (.inl ("java/lang/String", sgStr, [.ref v, .int 0])) ∧ (Term.field u "java/lang/String" "value" "[B").eval args s none [] s = some (.ref v) ∧ Arr s s.heap v cl .byte := by
  obtain ⟨a, e⟩ := exa_v h1
  obtain ⟨v, ev⟩ := arr_v h3
  obtain ⟨cl, A⟩ := Arr.start ev h3
  exact ⟨a, v, cl, e, str_old slo (Exa.start e h1) (Fld.start ((fld_at e).symm.trans ev)) (fld_of e h2), ev, A⟩
theorem own_b0 {s : State} {v : Addr} {cl : Cell} (A : Arr s s.heap v cl .byte) (h : cl.slots.size = (0 : Int32).toNatClampNeg) : Sat s s.heap v (.inr (.inl (.byte, []))) := by
  refine ⟨Or.inl rfl, cl, A, ?_, fun x hx => nomatch hx⟩
  exact Array.eq_empty_of_size_eq_zero h
theorem own_b1 {s : State} {v : Addr} {cl : Cell} {c : Int32} (A : Arr s s.heap v cl .byte) (h : cl.slots.size = (1 : Int32).toNatClampNeg) (h0 : cl.slots[(0 : Int32).toNatClampNeg]? = some (.int c)) (hf : fits .byte (.int c) = true) : Sat s s.heap v (.inr (.inl (.byte, [c]))) := by
  refine ⟨Or.inl rfl, cl, A, ?_, fun x hx => by cases List.mem_singleton.mp hx; exact hf⟩
  refine Array.ext_getElem? fun i => ?_
  rcases i with _ | i
  · exact h0
  · rw [Array.getElem?_eq_none (by rw [h]; show 1 ≤ _; omega)]; rfl
theorem own_nz {args : Array Value} {s : State} {t : Term} {c : Int32} (e : t.eval args s none [] s = some (.int c)) (h : (Cond.not (Cond.eq t (Term.int 0))).before args s = true) : ¬ c = 0 := by
  rintro rfl
  have h' := Cond.before_iff.mp h
  simp [Cond.value, e, Term.int_eval] at h'
theorem own_ch_all : ∀ n, n < 256 → 0 ≤ (nar .char (Int32.ofNat n).toUInt32.toUInt16.toUInt32.toInt32).toInt ∧ (nar .char (Int32.ofNat n).toUInt32.toUInt16.toUInt32.toInt32).toInt ≤ 255 := by decide +kernel
theorem own_of (y : Int32) (h : 0 ≤ y.toInt ∧ y.toInt ≤ 255) : y = Int32.ofNat y.toNatClampNeg ∧ y.toNatClampNeg < 256 := by
  have h2 : y.toNatClampNeg < 256 := by simp only [Int32.toNatClampNeg]; omega
  refine ⟨Int32.toInt_inj.mp ?_, h2⟩
  rw [Int32.toInt_ofNat_of_lt (by omega)]; simp only [Int32.toNatClampNeg]; omega
theorem own_m255 (x : Int32) : 0 ≤ (x &&& 255).toInt ∧ (x &&& 255).toInt ≤ 255 := by
  have h : (x &&& 255).toInt = x.toInt % 256 := c_mask x 255 8 (by decide) (by decide)
  omega
theorem own_ch (x : Int32) : 0 ≤ (nar .char (x &&& 255).toUInt32.toUInt16.toUInt32.toInt32).toInt ∧ (nar .char (x &&& 255).toUInt32.toUInt16.toUInt32.toInt32).toInt ≤ 255 := by
  have h := own_of (x &&& 255) (own_m255 x)
  rw [h.1]
  exact own_ch_all _ h.2
def Q_c_cm5_2 (b s q : Addr) (c0 c1 : Int32) (F : OH) : Option Value → OH → Prop := fun w' H' => w' = some (.int 2) ∧ H' = ((b, oA .byte [(nar .byte c0.toInt8.toInt32), (nar .byte c1.toInt8.toInt32)]) :: (s, oI "java/lang/String" sgStr [(.null), (.int (0 : Int32))]) :: (q, oA .char [c0, c1]) :: F)
theorem pd_1 : parseMethodDescriptor "([CI[BII)I" = some ⟨[(.array .char), .int, (.array .byte), .int, .int], (some .int)⟩ := by decide +kernel
theorem pn_1 : plainFor (⟨"java/lang/StringUTF16", "compress", "([CI[BII)I"⟩ : MethodName) = true := by first | exact plainFor_of_name (by first | (simp [plainName, overriddenIn]; done) | decide +kernel) | decide +kernel
theorem D_jdk_52_m21_0 : Dc jdk_52_method_21_code 0 (.iconst 0) 1 1 := ⟨by decide +kernel, rfl⟩
theorem D_jdk_52_m21_1 : Dc jdk_52_method_21_code 1 (.istore 5) 2 3 := ⟨by decide +kernel, rfl⟩
theorem D_jdk_52_m21_3 : Dc jdk_52_method_21_code 3 (.iload 5) 2 5 := ⟨by decide +kernel, rfl⟩
theorem D_jdk_52_m21_5 : Dc jdk_52_method_21_code 5 (.iload 4) 2 7 := ⟨by decide +kernel, rfl⟩
theorem D_jdk_52_m21_7 : Dc jdk_52_method_21_code 7 (.if_icmp .ge 37) 3 10 := ⟨by decide +kernel, rfl⟩
theorem D_jdk_52_m21_10 : Dc jdk_52_method_21_code 10 (.aload_n 0) 1 11 := ⟨by decide +kernel, rfl⟩
theorem D_jdk_52_m21_11 : Dc jdk_52_method_21_code 11 (.iload_n 1) 1 12 := ⟨by decide +kernel, rfl⟩
theorem D_jdk_52_m21_12 : Dc jdk_52_method_21_code 12 (.caload) 1 13 := ⟨by decide +kernel, rfl⟩
theorem D_jdk_52_m21_13 : Dc jdk_52_method_21_code 13 (.istore 6) 2 15 := ⟨by decide +kernel, rfl⟩
theorem D_jdk_52_m21_15 : Dc jdk_52_method_21_code 15 (.iload 6) 2 17 := ⟨by decide +kernel, rfl⟩
theorem D_jdk_52_m21_17 : Dc jdk_52_method_21_code 17 (.sipush 255) 3 20 := ⟨by decide +kernel, rfl⟩
theorem D_jdk_52_m21_20 : Dc jdk_52_method_21_code 20 (.if_icmp .le 6) 3 23 := ⟨by decide +kernel, rfl⟩
theorem D_jdk_52_m21_23 : Dc jdk_52_method_21_code 23 (.iload 5) 2 25 := ⟨by decide +kernel, rfl⟩
theorem D_jdk_52_m21_25 : Dc jdk_52_method_21_code 25 (.ireturn) 1 26 := ⟨by decide +kernel, rfl⟩
theorem D_jdk_52_m21_26 : Dc jdk_52_method_21_code 26 (.aload_n 2) 1 27 := ⟨by decide +kernel, rfl⟩
theorem D_jdk_52_m21_27 : Dc jdk_52_method_21_code 27 (.iload_n 3) 1 28 := ⟨by decide +kernel, rfl⟩
theorem D_jdk_52_m21_28 : Dc jdk_52_method_21_code 28 (.iload 6) 2 30 := ⟨by decide +kernel, rfl⟩
theorem D_jdk_52_m21_30 : Dc jdk_52_method_21_code 30 (.i2b) 1 31 := ⟨by decide +kernel, rfl⟩
theorem D_jdk_52_m21_31 : Dc jdk_52_method_21_code 31 (.bastore) 1 32 := ⟨by decide +kernel, rfl⟩
theorem D_jdk_52_m21_32 : Dc jdk_52_method_21_code 32 (.iinc 1 1) 3 35 := ⟨by decide +kernel, rfl⟩
theorem D_jdk_52_m21_35 : Dc jdk_52_method_21_code 35 (.iinc 3 1) 3 38 := ⟨by decide +kernel, rfl⟩
theorem D_jdk_52_m21_38 : Dc jdk_52_method_21_code 38 (.iinc 5 1) 3 41 := ⟨by decide +kernel, rfl⟩
theorem D_jdk_52_m21_41 : Dc jdk_52_method_21_code 41 (.goto (-38)) 3 44 := ⟨by decide +kernel, rfl⟩
theorem D_jdk_52_m21_44 : Dc jdk_52_method_21_code 44 (.iload 4) 2 46 := ⟨by decide +kernel, rfl⟩
theorem D_jdk_52_m21_46 : Dc jdk_52_method_21_code 46 (.ireturn) 1 47 := ⟨by decide +kernel, rfl⟩
set_option maxRecDepth 65536 in
set_option maxHeartbeats 40000000 in
theorem c_cm5_2 (l : Launch) (Z : State) (a0 : Array Value) (hw : ∀ d ∈ tables_1, d.before a0 Z = true) (b s q : Addr) (c0 c1 : Int32) (F : OH) (h_c0 : 0 ≤ c0.toInt ∧ c0.toInt ≤ 255) (h_c1 : 0 ≤ c1.toInt ∧ c1.toInt ≤ 255) :
    Met l Z (⟨"java/lang/StringUTF16", "compress", "([CI[BII)I"⟩ : MethodName) jdk_52_method_21_code 7 (some .int) ({ frames := 0, cells := 0, slots := 0, locals := 0 } : Room) [(.ref q), (.int (0 : Int32)), (.ref b), (.int (0 : Int32)), (.int (2 : Int32))] ((b, oA .byte [(0 : Int32), (0 : Int32)]) :: (s, oI "java/lang/String" sgStr [(.null), (.int (0 : Int32))]) :: (q, oA .char [c0, c1]) :: F) (Q_c_cm5_2 b s q c0 c1 F) := by
  refine Met.of_wp (Ls := #[.val (.ref q), .val (.int (0 : Int32)), .val (.ref b), .val (.int (0 : Int32)), .val (.int (2 : Int32)), .unset, .unset]) pn_1 (fun m => by first | rfl | (simp [entryFrame, mkF, argsToLocals, Value.category]; done)) ?_
  show Wp none l Z "java/lang/StringUTF16" "compress" jdk_52_method_21_code 7 (some .int) ({ frames := 0, cells := 0, slots := 0, locals := 0 } : Room) ((b, oA .byte [(0 : Int32), (0 : Int32)]) :: (s, oI "java/lang/String" sgStr [(.null), (.int (0 : Int32))]) :: (q, oA .char [c0, c1]) :: F) 0 0 0 #[.val (.ref q), .val (.int (0 : Int32)), .val (.ref b), .val (.int (0 : Int32)), .val (.int (2 : Int32)), .unset, .unset] [] (Q_c_cm5_2 b s q c0 c1 F)
  refine wp_iconst 0 D_jdk_52_m21_0 (by decide) ?_
  refine wp_istore #[.val (.ref q), .val (.int (0 : Int32)), .val (.ref b), .val (.int (0 : Int32)), .val (.int (2 : Int32)), .val (.int (0 : Int32)), .unset] D_jdk_52_m21_1 rfl ?_
  refine wp_iload D_jdk_52_m21_3 rfl ?_
  refine wp_iload D_jdk_52_m21_5 rfl ?_
  refine wp_icmp_ge D_jdk_52_m21_7 (pc'' := 44) ⟨by decide, by decide⟩ (fun h1 => by exact absurd h1 (by decide)) (fun h1 => ?_)
  refine wp_aload_n D_jdk_52_m21_10 rfl rfl ?_
  refine wp_iload_n D_jdk_52_m21_11 rfl ?_
  refine wp_caload (i := 2) (0) D_jdk_52_m21_12 rfl (by decide) (by decide) rfl ?_
  refine wp_istore #[.val (.ref q), .val (.int (0 : Int32)), .val (.ref b), .val (.int (0 : Int32)), .val (.int (2 : Int32)), .val (.int (0 : Int32)), .val (.int c0)] D_jdk_52_m21_13 rfl ?_
  refine wp_iload D_jdk_52_m21_15 rfl ?_
  refine wp_sipush 255 D_jdk_52_m21_17 (by decide) ?_
  refine wp_icmp_le D_jdk_52_m21_20 (pc'' := 26) ⟨by decide, by decide⟩ (fun h2 => ?_) (fun h2 => by exfalso; (simp only [Int32.lt_iff_toInt_lt, Int32.le_iff_toInt_le, ← Int32.toInt_inj, Int32.reduceToInt, Int64.lt_iff_toInt_lt, ← Int64.toInt_inj, Int64.reduceToInt] at *; omega))
  refine wp_aload_n D_jdk_52_m21_26 rfl rfl ?_
  refine wp_iload_n D_jdk_52_m21_27 rfl ?_
  refine wp_iload D_jdk_52_m21_28 rfl ?_
  refine wp_i2b D_jdk_52_m21_30 ?_
  refine wp_bastore (i := 0) (0) D_jdk_52_m21_31 rfl (by decide) (by decide) (by first | decide | exact Nat.le_of_ble_eq_true rfl | simp) ?_
  show Wp none l Z "java/lang/StringUTF16" "compress" jdk_52_method_21_code 7 (some .int) ({ frames := 0, cells := 0, slots := 0, locals := 0 } : Room) ((b, oA .byte [(nar .byte c0.toInt8.toInt32), (0 : Int32)]) :: (s, oI "java/lang/String" sgStr [(.null), (.int (0 : Int32))]) :: (q, oA .char [c0, c1]) :: F) 0 0 32 #[.val (.ref q), .val (.int (0 : Int32)), .val (.ref b), .val (.int (0 : Int32)), .val (.int (2 : Int32)), .val (.int (0 : Int32)), .val (.int c0)] [] (Q_c_cm5_2 b s q c0 c1 F)
  refine wp_iinc 1 #[.val (.ref q), .val (.int (1 : Int32)), .val (.ref b), .val (.int (0 : Int32)), .val (.int (2 : Int32)), .val (.int (0 : Int32)), .val (.int c0)] D_jdk_52_m21_32 rfl rfl (by rw [show (0 : Int32) + (1 : Int32) = (1 : Int32) from by decide]; rfl) ?_
  refine wp_iinc 1 #[.val (.ref q), .val (.int (1 : Int32)), .val (.ref b), .val (.int (1 : Int32)), .val (.int (2 : Int32)), .val (.int (0 : Int32)), .val (.int c0)] D_jdk_52_m21_35 rfl rfl (by rw [show (0 : Int32) + (1 : Int32) = (1 : Int32) from by decide]; rfl) ?_
  refine wp_iinc 1 #[.val (.ref q), .val (.int (1 : Int32)), .val (.ref b), .val (.int (1 : Int32)), .val (.int (2 : Int32)), .val (.int (1 : Int32)), .val (.int c0)] D_jdk_52_m21_38 rfl rfl (by rw [show (0 : Int32) + (1 : Int32) = (1 : Int32) from by decide]; rfl) ?_
  refine wp_goto D_jdk_52_m21_41 (pc'' := 3) ⟨by decide, by decide⟩ ?_
  refine wp_iload D_jdk_52_m21_3 rfl ?_
  refine wp_iload D_jdk_52_m21_5 rfl ?_
  refine wp_icmp_ge D_jdk_52_m21_7 (pc'' := 44) ⟨by decide, by decide⟩ (fun h3 => by exact absurd h3 (by decide)) (fun h3 => ?_)
  refine wp_aload_n D_jdk_52_m21_10 rfl rfl ?_
  refine wp_iload_n D_jdk_52_m21_11 rfl ?_
  refine wp_caload (i := 2) (1) D_jdk_52_m21_12 rfl (by decide) (by decide) rfl ?_
  refine wp_istore #[.val (.ref q), .val (.int (1 : Int32)), .val (.ref b), .val (.int (1 : Int32)), .val (.int (2 : Int32)), .val (.int (1 : Int32)), .val (.int c1)] D_jdk_52_m21_13 rfl ?_
  refine wp_iload D_jdk_52_m21_15 rfl ?_
  refine wp_sipush 255 D_jdk_52_m21_17 (by decide) ?_
  refine wp_icmp_le D_jdk_52_m21_20 (pc'' := 26) ⟨by decide, by decide⟩ (fun h4 => ?_) (fun h4 => by exfalso; (simp only [Int32.lt_iff_toInt_lt, Int32.le_iff_toInt_le, ← Int32.toInt_inj, Int32.reduceToInt, Int64.lt_iff_toInt_lt, ← Int64.toInt_inj, Int64.reduceToInt] at *; omega))
  refine wp_aload_n D_jdk_52_m21_26 rfl rfl ?_
  refine wp_iload_n D_jdk_52_m21_27 rfl ?_
  refine wp_iload D_jdk_52_m21_28 rfl ?_
  refine wp_i2b D_jdk_52_m21_30 ?_
  refine wp_bastore (i := 0) (1) D_jdk_52_m21_31 rfl (by decide) (by decide) (by first | decide | exact Nat.le_of_ble_eq_true rfl | simp) ?_
  show Wp none l Z "java/lang/StringUTF16" "compress" jdk_52_method_21_code 7 (some .int) ({ frames := 0, cells := 0, slots := 0, locals := 0 } : Room) ((b, oA .byte [(nar .byte c0.toInt8.toInt32), (nar .byte c1.toInt8.toInt32)]) :: (s, oI "java/lang/String" sgStr [(.null), (.int (0 : Int32))]) :: (q, oA .char [c0, c1]) :: F) 0 0 32 #[.val (.ref q), .val (.int (1 : Int32)), .val (.ref b), .val (.int (1 : Int32)), .val (.int (2 : Int32)), .val (.int (1 : Int32)), .val (.int c1)] [] (Q_c_cm5_2 b s q c0 c1 F)
  refine wp_iinc 1 #[.val (.ref q), .val (.int (2 : Int32)), .val (.ref b), .val (.int (1 : Int32)), .val (.int (2 : Int32)), .val (.int (1 : Int32)), .val (.int c1)] D_jdk_52_m21_32 rfl rfl (by rw [show (1 : Int32) + (1 : Int32) = (2 : Int32) from by decide]; rfl) ?_
  refine wp_iinc 1 #[.val (.ref q), .val (.int (2 : Int32)), .val (.ref b), .val (.int (2 : Int32)), .val (.int (2 : Int32)), .val (.int (1 : Int32)), .val (.int c1)] D_jdk_52_m21_35 rfl rfl (by rw [show (1 : Int32) + (1 : Int32) = (2 : Int32) from by decide]; rfl) ?_
  refine wp_iinc 1 #[.val (.ref q), .val (.int (2 : Int32)), .val (.ref b), .val (.int (2 : Int32)), .val (.int (2 : Int32)), .val (.int (2 : Int32)), .val (.int c1)] D_jdk_52_m21_38 rfl rfl (by rw [show (1 : Int32) + (1 : Int32) = (2 : Int32) from by decide]; rfl) ?_
  refine wp_goto D_jdk_52_m21_41 (pc'' := 3) ⟨by decide, by decide⟩ ?_
  refine wp_iload D_jdk_52_m21_3 rfl ?_
  refine wp_iload D_jdk_52_m21_5 rfl ?_
  refine wp_icmp_ge D_jdk_52_m21_7 (pc'' := 44) ⟨by decide, by decide⟩ (fun h5 => ?_) (fun h5 => by exact absurd h5 (by decide))
  refine wp_iload D_jdk_52_m21_44 rfl ?_
  refine wp_ireturn D_jdk_52_m21_46 rfl (by decide) (by decide) ?_
  exact ⟨rfl, rfl⟩
def Q_c_cm3_2 (s q : Addr) (c0 c1 : Int32) (F : OH) : Option Value → OH → Prop := fun w' H' => ∃ b, w' = some (.ref b) ∧ H' = ((b, oA .byte [(nar .byte c0.toInt8.toInt32), (nar .byte c1.toInt8.toInt32)]) :: (s, oI "java/lang/String" sgStr [(.null), (.int (0 : Int32))]) :: (q, oA .char [c0, c1]) :: F)
theorem pn_2 : plainFor (⟨"java/lang/StringUTF16", "compress", "([CII)[B"⟩ : MethodName) = true := by first | exact plainFor_of_name (by first | (simp [plainName, overriddenIn]; done) | decide +kernel) | decide +kernel
theorem D_jdk_52_m16_0 : Dc jdk_52_method_16_code 0 (.iload_n 2) 1 1 := ⟨by decide +kernel, rfl⟩
theorem D_jdk_52_m16_1 : Dc jdk_52_method_16_code 1 (.newarray .byte) 2 3 := ⟨by decide +kernel, rfl⟩
theorem D_jdk_52_m16_3 : Dc jdk_52_method_16_code 3 (.astore_n 3) 1 4 := ⟨by decide +kernel, rfl⟩
theorem D_jdk_52_m16_4 : Dc jdk_52_method_16_code 4 (.aload_n 0) 1 5 := ⟨by decide +kernel, rfl⟩
theorem D_jdk_52_m16_5 : Dc jdk_52_method_16_code 5 (.iload_n 1) 1 6 := ⟨by decide +kernel, rfl⟩
theorem D_jdk_52_m16_6 : Dc jdk_52_method_16_code 6 (.aload_n 3) 1 7 := ⟨by decide +kernel, rfl⟩
theorem D_jdk_52_m16_7 : Dc jdk_52_method_16_code 7 (.iconst 0) 1 8 := ⟨by decide +kernel, rfl⟩
theorem D_jdk_52_m16_8 : Dc jdk_52_method_16_code 8 (.iload_n 2) 1 9 := ⟨by decide +kernel, rfl⟩
theorem D_jdk_52_m16_9 : Dc jdk_52_method_16_code 9 (.invokestatic 115) 3 12 := ⟨by decide +kernel, rfl⟩
theorem D_jdk_52_m16_12 : Dc jdk_52_method_16_code 12 (.istore 4) 2 14 := ⟨by decide +kernel, rfl⟩
theorem D_jdk_52_m16_14 : Dc jdk_52_method_16_code 14 (.iload 4) 2 16 := ⟨by decide +kernel, rfl⟩
theorem D_jdk_52_m16_16 : Dc jdk_52_method_16_code 16 (.iload_n 2) 1 17 := ⟨by decide +kernel, rfl⟩
theorem D_jdk_52_m16_17 : Dc jdk_52_method_16_code 17 (.if_icmp .eq 40) 3 20 := ⟨by decide +kernel, rfl⟩
theorem D_jdk_52_m16_20 : Dc jdk_52_method_16_code 20 (.aload_n 0) 1 21 := ⟨by decide +kernel, rfl⟩
theorem D_jdk_52_m16_21 : Dc jdk_52_method_16_code 21 (.iload_n 1) 1 22 := ⟨by decide +kernel, rfl⟩
theorem D_jdk_52_m16_22 : Dc jdk_52_method_16_code 22 (.iload_n 2) 1 23 := ⟨by decide +kernel, rfl⟩
theorem D_jdk_52_m16_23 : Dc jdk_52_method_16_code 23 (.invokestatic 119) 3 26 := ⟨by decide +kernel, rfl⟩
theorem D_jdk_52_m16_26 : Dc jdk_52_method_16_code 26 (.astore 5) 2 28 := ⟨by decide +kernel, rfl⟩
theorem D_jdk_52_m16_28 : Dc jdk_52_method_16_code 28 (.aload 5) 2 30 := ⟨by decide +kernel, rfl⟩
theorem D_jdk_52_m16_30 : Dc jdk_52_method_16_code 30 (.iload 4) 2 32 := ⟨by decide +kernel, rfl⟩
theorem D_jdk_52_m16_32 : Dc jdk_52_method_16_code 32 (.invokestatic 71) 3 35 := ⟨by decide +kernel, rfl⟩
theorem D_jdk_52_m16_35 : Dc jdk_52_method_16_code 35 (.sipush 255) 3 38 := ⟨by decide +kernel, rfl⟩
theorem D_jdk_52_m16_38 : Dc jdk_52_method_16_code 38 (.if_icmp .gt 16) 3 41 := ⟨by decide +kernel, rfl⟩
theorem D_jdk_52_m16_41 : Dc jdk_52_method_16_code 41 (.aload 5) 2 43 := ⟨by decide +kernel, rfl⟩
theorem D_jdk_52_m16_43 : Dc jdk_52_method_16_code 43 (.iconst 0) 1 44 := ⟨by decide +kernel, rfl⟩
theorem D_jdk_52_m16_44 : Dc jdk_52_method_16_code 44 (.aload_n 3) 1 45 := ⟨by decide +kernel, rfl⟩
theorem D_jdk_52_m16_45 : Dc jdk_52_method_16_code 45 (.iconst 0) 1 46 := ⟨by decide +kernel, rfl⟩
theorem D_jdk_52_m16_46 : Dc jdk_52_method_16_code 46 (.iload_n 2) 1 47 := ⟨by decide +kernel, rfl⟩
theorem D_jdk_52_m16_47 : Dc jdk_52_method_16_code 47 (.invokestatic 123) 3 50 := ⟨by decide +kernel, rfl⟩
theorem D_jdk_52_m16_50 : Dc jdk_52_method_16_code 50 (.iload_n 2) 1 51 := ⟨by decide +kernel, rfl⟩
theorem D_jdk_52_m16_51 : Dc jdk_52_method_16_code 51 (.if_icmp .eq 6) 3 54 := ⟨by decide +kernel, rfl⟩
theorem D_jdk_52_m16_54 : Dc jdk_52_method_16_code 54 (.aload 5) 2 56 := ⟨by decide +kernel, rfl⟩
theorem D_jdk_52_m16_56 : Dc jdk_52_method_16_code 56 (.areturn) 1 57 := ⟨by decide +kernel, rfl⟩
theorem D_jdk_52_m16_57 : Dc jdk_52_method_16_code 57 (.aload_n 3) 1 58 := ⟨by decide +kernel, rfl⟩
theorem D_jdk_52_m16_58 : Dc jdk_52_method_16_code 58 (.areturn) 1 59 := ⟨by decide +kernel, rfl⟩
set_option maxRecDepth 65536 in
set_option maxHeartbeats 40000000 in
theorem c_cm3_2 (l : Launch) (Z : State) (a0 : Array Value) (hw : ∀ d ∈ tables_1, d.before a0 Z = true) (s q : Addr) (c0 c1 : Int32) (F : OH) (h_c0 : 0 ≤ c0.toInt ∧ c0.toInt ≤ 255) (h_c1 : 0 ≤ c1.toInt ∧ c1.toInt ≤ 255) :
    Met l Z (⟨"java/lang/StringUTF16", "compress", "([CII)[B"⟩ : MethodName) jdk_52_method_16_code 6 (some (.array .byte)) ({ frames := 1, cells := 1, slots := 2, locals := 18 } : Room) [(.ref q), (.int (0 : Int32)), (.int (2 : Int32))] ((s, oI "java/lang/String" sgStr [(.null), (.int (0 : Int32))]) :: (q, oA .char [c0, c1]) :: F) (Q_c_cm3_2 s q c0 c1 F) := by
  refine Met.of_wp (Ls := #[.val (.ref q), .val (.int (0 : Int32)), .val (.int (2 : Int32)), .unset, .unset, .unset]) pn_2 (fun m => by first | rfl | (simp [entryFrame, mkF, argsToLocals, Value.category]; done)) ?_
  show Wp none l Z "java/lang/StringUTF16" "compress" jdk_52_method_16_code 6 (some (.array .byte)) ({ frames := 1, cells := 1, slots := 2, locals := 18 } : Room) ((s, oI "java/lang/String" sgStr [(.null), (.int (0 : Int32))]) :: (q, oA .char [c0, c1]) :: F) 0 0 0 #[.val (.ref q), .val (.int (0 : Int32)), .val (.int (2 : Int32)), .unset, .unset, .unset] [] (Q_c_cm3_2 s q c0 c1 F)
  refine wp_iload_n D_jdk_52_m16_0 rfl ?_
  refine wp_newarrayI (n := (2 : Int32)) (2) 2 D_jdk_52_m16_1 rfl rfl rfl (hw _ (List.mem_of_getElem? (i := 19) rfl)) (by decide) (by decide) (by decide) (by decide) (by decide) (by decide) ?_
  intro a1
  show Wp none l Z "java/lang/StringUTF16" "compress" jdk_52_method_16_code 6 (some (.array .byte)) ({ frames := 1, cells := 1, slots := 2, locals := 18 } : Room) ((a1, oA .byte [(0 : Int32), (0 : Int32)]) :: (s, oI "java/lang/String" sgStr [(.null), (.int (0 : Int32))]) :: (q, oA .char [c0, c1]) :: F) 1 2 3 #[.val (.ref q), .val (.int (0 : Int32)), .val (.int (2 : Int32)), .unset, .unset, .unset] [(.ref a1)] (Q_c_cm3_2 s q c0 c1 F)
  refine wp_astore_n #[.val (.ref q), .val (.int (0 : Int32)), .val (.int (2 : Int32)), .val (.ref a1), .unset, .unset] D_jdk_52_m16_3 rfl rfl ?_
  refine wp_aload_n D_jdk_52_m16_4 rfl rfl ?_
  refine wp_iload_n D_jdk_52_m16_5 rfl ?_
  refine wp_aload_n D_jdk_52_m16_6 rfl rfl ?_
  refine wp_iconst 0 D_jdk_52_m16_7 (by decide) ?_
  refine wp_iload_n D_jdk_52_m16_8 rfl ?_
  refine wp_callS (c_cm5_2 l Z a0 hw a1 s q c0 c1 F h_c0 h_c1) D_jdk_52_m16_9 (hw _ (List.mem_of_getElem? (i := 20) rfl)) (hw _ (List.mem_of_getElem? (i := 21) rfl)) (hw _ (List.mem_of_getElem? (i := 17) rfl)) (hw _ (List.mem_of_getElem? (i := 22) rfl)) (by decide) pd_1 rfl rfl rfl (Nat.le_of_ble_eq_true rfl) (Nat.le_of_ble_eq_true rfl) (Nat.le_of_ble_eq_true rfl) (Nat.le_of_ble_eq_true rfl) ?_
  rintro _ _ ⟨rfl, rfl⟩
  show Wp none l Z "java/lang/StringUTF16" "compress" jdk_52_method_16_code 6 (some (.array .byte)) ({ frames := 1, cells := 1, slots := 2, locals := 18 } : Room) ((a1, oA .byte [(nar .byte c0.toInt8.toInt32), (nar .byte c1.toInt8.toInt32)]) :: (s, oI "java/lang/String" sgStr [(.null), (.int (0 : Int32))]) :: (q, oA .char [c0, c1]) :: F) 1 2 12 #[.val (.ref q), .val (.int (0 : Int32)), .val (.int (2 : Int32)), .val (.ref a1), .unset, .unset] [(.int (2 : Int32))] (Q_c_cm3_2 s q c0 c1 F)
  refine wp_istore #[.val (.ref q), .val (.int (0 : Int32)), .val (.int (2 : Int32)), .val (.ref a1), .val (.int (2 : Int32)), .unset] D_jdk_52_m16_12 rfl ?_
  refine wp_iload D_jdk_52_m16_14 rfl ?_
  refine wp_iload_n D_jdk_52_m16_16 rfl ?_
  refine wp_icmp_eq D_jdk_52_m16_17 (pc'' := 57) ⟨by decide, by decide⟩ (fun h2 => ?_) (fun h2 => by exact absurd h2 (by decide))
  refine wp_aload_n D_jdk_52_m16_57 rfl rfl ?_
  refine wp_areturn D_jdk_52_m16_58 rfl rfl rfl rfl (by decide) (by decide) ?_
  exact ⟨_, rfl, rfl⟩
def Q_c_cfa_2 (b s q : Addr) (c0 c1 : Int32) (F : OH) : Option Value → OH → Prop := fun w' H' => w' = some (.int 0) ∧ H' = ((b, oA .byte [(nar .byte c0.toInt8.toInt32), (nar .byte c1.toInt8.toInt32)]) :: (s, oI "java/lang/String" sgStr [(.null), (.int (0 : Int32))]) :: (q, oA .char [c0, c1]) :: F)
theorem pn_3 : plainFor (⟨"java/lang/StringUTF16", "coderFromArrayLen", "([BI)B"⟩ : MethodName) = true := by first | exact plainFor_of_name (by first | (simp [plainName, overriddenIn]; done) | decide +kernel) | decide +kernel
theorem D_jdk_52_m15_0 : Dc jdk_52_method_15_code 0 (.iload_n 1) 1 1 := ⟨by decide +kernel, rfl⟩
theorem D_jdk_52_m15_1 : Dc jdk_52_method_15_code 1 (.aload_n 0) 1 2 := ⟨by decide +kernel, rfl⟩
theorem D_jdk_52_m15_2 : Dc jdk_52_method_15_code 2 (.arraylength) 1 3 := ⟨by decide +kernel, rfl⟩
theorem D_jdk_52_m15_3 : Dc jdk_52_method_15_code 3 (.isub) 1 4 := ⟨by decide +kernel, rfl⟩
theorem D_jdk_52_m15_4 : Dc jdk_52_method_15_code 4 (.bipush 31) 2 6 := ⟨by decide +kernel, rfl⟩
theorem D_jdk_52_m15_6 : Dc jdk_52_method_15_code 6 (.iushr) 1 7 := ⟨by decide +kernel, rfl⟩
theorem D_jdk_52_m15_7 : Dc jdk_52_method_15_code 7 (.i2b) 1 8 := ⟨by decide +kernel, rfl⟩
theorem D_jdk_52_m15_8 : Dc jdk_52_method_15_code 8 (.ireturn) 1 9 := ⟨by decide +kernel, rfl⟩
set_option maxRecDepth 65536 in
set_option maxHeartbeats 40000000 in
theorem c_cfa_2 (l : Launch) (Z : State) (a0 : Array Value) (hw : ∀ d ∈ tables_1, d.before a0 Z = true) (b s q : Addr) (c0 c1 : Int32) (F : OH) :
    Met l Z (⟨"java/lang/StringUTF16", "coderFromArrayLen", "([BI)B"⟩ : MethodName) jdk_52_method_15_code 2 (some .byte) ({ frames := 0, cells := 0, slots := 0, locals := 0 } : Room) [(.ref b), (.int (2 : Int32))] ((b, oA .byte [(nar .byte c0.toInt8.toInt32), (nar .byte c1.toInt8.toInt32)]) :: (s, oI "java/lang/String" sgStr [(.null), (.int (0 : Int32))]) :: (q, oA .char [c0, c1]) :: F) (Q_c_cfa_2 b s q c0 c1 F) := by
  refine Met.of_wp (Ls := #[.val (.ref b), .val (.int (2 : Int32))]) pn_3 (fun m => by first | rfl | (simp [entryFrame, mkF, argsToLocals, Value.category]; done)) ?_
  show Wp none l Z "java/lang/StringUTF16" "coderFromArrayLen" jdk_52_method_15_code 2 (some .byte) ({ frames := 0, cells := 0, slots := 0, locals := 0 } : Room) ((b, oA .byte [(nar .byte c0.toInt8.toInt32), (nar .byte c1.toInt8.toInt32)]) :: (s, oI "java/lang/String" sgStr [(.null), (.int (0 : Int32))]) :: (q, oA .char [c0, c1]) :: F) 0 0 0 #[.val (.ref b), .val (.int (2 : Int32))] [] (Q_c_cfa_2 b s q c0 c1 F)
  refine wp_iload_n D_jdk_52_m15_0 rfl ?_
  refine wp_aload_n D_jdk_52_m15_1 rfl rfl ?_
  refine wp_lengthI (i := 0) (2 : Int32) D_jdk_52_m15_2 rfl rfl ?_
  refine wp_isub D_jdk_52_m15_3 ?_
  rw [show ((2 : Int32) - (2 : Int32)) = (0 : Int32) from by decide]
  refine wp_bipush 31 D_jdk_52_m15_4 (by decide) ?_
  refine wp_iushr D_jdk_52_m15_6 ?_
  rw [show (XT.ushr (0 : Int32) (31 : Int32)) = (0 : Int32) from by decide]
  refine wp_i2b D_jdk_52_m15_7 ?_
  rw [show (0 : Int32).toInt8.toInt32 = (0 : Int32) from by decide]
  refine wp_ireturnN D_jdk_52_m15_8 rfl (by simp) (by decide) (by decide) ?_
  exact ⟨rfl, rfl⟩
def Q_c_si4_2 (s q : Addr) (cp : Int32) (c0 c1 : Int32) (F : OH) : Option Value → OH → Prop := fun w' H' => w' = none ∧ ∃ b, H' = ((b, oA .byte [(nar .byte c0.toInt8.toInt32), (nar .byte c1.toInt8.toInt32)]) :: (s, oI "java/lang/String" sgStr [(.ref b), (.int (0 : Int32))]) :: (q, oA .char [c0, c1]) :: F)
theorem pd_2 : parseMethodDescriptor "([CIILjava/lang/Void;)V" = some ⟨[(.array .char), .int, .int, (.object "java/lang/Void")], none⟩ := by decide +kernel
theorem pd_3 : parseMethodDescriptor "([CII)[B" = some ⟨[(.array .char), .int, .int], (some (.array .byte))⟩ := by decide +kernel
theorem pd_4 : parseMethodDescriptor "([BI)B" = some ⟨[(.array .byte), .int], (some .byte)⟩ := by decide +kernel
theorem pn_4 : plainFor (⟨"java/lang/String", "<init>", "([CIILjava/lang/Void;)V"⟩ : MethodName) = true := by first | exact plainFor_of_name (by first | (simp [plainName, overriddenIn]; done) | decide +kernel) | decide +kernel
theorem D_jdk_42_m149_0 : Dc jdk_42_method_149_code 0 (.aload_n 0) 1 1 := ⟨by decide +kernel, rfl⟩
theorem D_jdk_42_m149_1 : Dc jdk_42_method_149_code 1 (.invokespecial 1) 3 4 := ⟨by decide +kernel, rfl⟩
theorem D_jdk_42_m149_4 : Dc jdk_42_method_149_code 4 (.iload_n 3) 1 5 := ⟨by decide +kernel, rfl⟩
theorem D_jdk_42_m149_5 : Dc jdk_42_method_149_code 5 (.ifCond .ne 22) 3 8 := ⟨by decide +kernel, rfl⟩
theorem D_jdk_42_m149_8 : Dc jdk_42_method_149_code 8 (.aload_n 0) 1 9 := ⟨by decide +kernel, rfl⟩
theorem D_jdk_42_m149_9 : Dc jdk_42_method_149_code 9 (.ldc 7) 2 11 := ⟨by decide +kernel, rfl⟩
theorem D_jdk_42_m149_11 : Dc jdk_42_method_149_code 11 (.getfield 9) 3 14 := ⟨by decide +kernel, rfl⟩
theorem D_jdk_42_m149_14 : Dc jdk_42_method_149_code 14 (.putfield 9) 3 17 := ⟨by decide +kernel, rfl⟩
theorem D_jdk_42_m149_17 : Dc jdk_42_method_149_code 17 (.aload_n 0) 1 18 := ⟨by decide +kernel, rfl⟩
theorem D_jdk_42_m149_18 : Dc jdk_42_method_149_code 18 (.ldc 7) 2 20 := ⟨by decide +kernel, rfl⟩
theorem D_jdk_42_m149_20 : Dc jdk_42_method_149_code 20 (.getfield 15) 3 23 := ⟨by decide +kernel, rfl⟩
theorem D_jdk_42_m149_23 : Dc jdk_42_method_149_code 23 (.putfield 15) 3 26 := ⟨by decide +kernel, rfl⟩
theorem D_jdk_42_m149_26 : Dc jdk_42_method_149_code 26 (.return_) 1 27 := ⟨by decide +kernel, rfl⟩
theorem D_jdk_42_m149_27 : Dc jdk_42_method_149_code 27 (.getstatic 38) 3 30 := ⟨by decide +kernel, rfl⟩
theorem D_jdk_42_m149_30 : Dc jdk_42_method_149_code 30 (.ifCond .eq 28) 3 33 := ⟨by decide +kernel, rfl⟩
theorem D_jdk_42_m149_33 : Dc jdk_42_method_149_code 33 (.aload_n 1) 1 34 := ⟨by decide +kernel, rfl⟩
theorem D_jdk_42_m149_34 : Dc jdk_42_method_149_code 34 (.iload_n 2) 1 35 := ⟨by decide +kernel, rfl⟩
theorem D_jdk_42_m149_35 : Dc jdk_42_method_149_code 35 (.iload_n 3) 1 36 := ⟨by decide +kernel, rfl⟩
theorem D_jdk_42_m149_36 : Dc jdk_42_method_149_code 36 (.invokestatic 177) 3 39 := ⟨by decide +kernel, rfl⟩
theorem D_jdk_42_m149_39 : Dc jdk_42_method_149_code 39 (.astore 5) 2 41 := ⟨by decide +kernel, rfl⟩
theorem D_jdk_42_m149_41 : Dc jdk_42_method_149_code 41 (.aload_n 0) 1 42 := ⟨by decide +kernel, rfl⟩
theorem D_jdk_42_m149_42 : Dc jdk_42_method_149_code 42 (.aload 5) 2 44 := ⟨by decide +kernel, rfl⟩
theorem D_jdk_42_m149_44 : Dc jdk_42_method_149_code 44 (.iload_n 3) 1 45 := ⟨by decide +kernel, rfl⟩
theorem D_jdk_42_m149_45 : Dc jdk_42_method_149_code 45 (.invokestatic 47) 3 48 := ⟨by decide +kernel, rfl⟩
theorem D_jdk_42_m149_48 : Dc jdk_42_method_149_code 48 (.putfield 15) 3 51 := ⟨by decide +kernel, rfl⟩
theorem D_jdk_42_m149_51 : Dc jdk_42_method_149_code 51 (.aload_n 0) 1 52 := ⟨by decide +kernel, rfl⟩
theorem D_jdk_42_m149_52 : Dc jdk_42_method_149_code 52 (.aload 5) 2 54 := ⟨by decide +kernel, rfl⟩
theorem D_jdk_42_m149_54 : Dc jdk_42_method_149_code 54 (.putfield 9) 3 57 := ⟨by decide +kernel, rfl⟩
theorem D_jdk_42_m149_57 : Dc jdk_42_method_149_code 57 (.return_) 1 58 := ⟨by decide +kernel, rfl⟩
theorem D_jdk_42_m149_58 : Dc jdk_42_method_149_code 58 (.aload_n 0) 1 59 := ⟨by decide +kernel, rfl⟩
theorem D_jdk_42_m149_59 : Dc jdk_42_method_149_code 59 (.iconst 1) 1 60 := ⟨by decide +kernel, rfl⟩
theorem D_jdk_42_m149_60 : Dc jdk_42_method_149_code 60 (.putfield 15) 3 63 := ⟨by decide +kernel, rfl⟩
theorem D_jdk_42_m149_63 : Dc jdk_42_method_149_code 63 (.aload_n 0) 1 64 := ⟨by decide +kernel, rfl⟩
theorem D_jdk_42_m149_64 : Dc jdk_42_method_149_code 64 (.aload_n 1) 1 65 := ⟨by decide +kernel, rfl⟩
theorem D_jdk_42_m149_65 : Dc jdk_42_method_149_code 65 (.iload_n 2) 1 66 := ⟨by decide +kernel, rfl⟩
theorem D_jdk_42_m149_66 : Dc jdk_42_method_149_code 66 (.iload_n 3) 1 67 := ⟨by decide +kernel, rfl⟩
theorem D_jdk_42_m149_67 : Dc jdk_42_method_149_code 67 (.invokestatic 180) 3 70 := ⟨by decide +kernel, rfl⟩
theorem D_jdk_42_m149_70 : Dc jdk_42_method_149_code 70 (.putfield 9) 3 73 := ⟨by decide +kernel, rfl⟩
theorem D_jdk_42_m149_73 : Dc jdk_42_method_149_code 73 (.return_) 1 74 := ⟨by decide +kernel, rfl⟩
set_option maxRecDepth 65536 in
set_option maxHeartbeats 40000000 in
theorem c_si4_2 (l : Launch) (Z : State) (a0 : Array Value) (hw : ∀ d ∈ tables_1, d.before a0 Z = true) (s q : Addr) (cp : Int32) (c0 c1 : Int32) (F : OH) (S_cp : Sta Z Z.heap "java/lang/String" "COMPACT_STRINGS" "Z" (.int cp)) (hcp : ¬ cp = 0) (h_c0 : 0 ≤ c0.toInt ∧ c0.toInt ≤ 255) (h_c1 : 0 ≤ c1.toInt ∧ c1.toInt ≤ 255) :
    Met l Z (⟨"java/lang/String", "<init>", "([CIILjava/lang/Void;)V"⟩ : MethodName) jdk_42_method_149_code 6 none ({ frames := 2, cells := 1, slots := 2, locals := 35 } : Room) [(.ref s), (.ref q), (.int (0 : Int32)), (.int (2 : Int32)), (.null)] ((s, oI "java/lang/String" sgStr [(.null), (.int (0 : Int32))]) :: (q, oA .char [c0, c1]) :: F) (Q_c_si4_2 s q cp c0 c1 F) := by
  refine Met.of_wp (Ls := #[.val (.ref s), .val (.ref q), .val (.int (0 : Int32)), .val (.int (2 : Int32)), .val (.null), .unset]) pn_4 (fun m => by first | rfl | (simp [entryFrame, mkF, argsToLocals, Value.category]; done)) ?_
  show Wp none l Z "java/lang/String" "<init>" jdk_42_method_149_code 6 none ({ frames := 2, cells := 1, slots := 2, locals := 35 } : Room) ((s, oI "java/lang/String" sgStr [(.null), (.int (0 : Int32))]) :: (q, oA .char [c0, c1]) :: F) 0 0 0 #[.val (.ref s), .val (.ref q), .val (.int (0 : Int32)), .val (.int (2 : Int32)), .val (.null), .unset] [] (Q_c_si4_2 s q cp c0 c1 F)
  refine wp_aload_n D_jdk_42_m149_0 rfl rfl ?_
  refine wp_initO D_jdk_42_m149_1 (hw _ (List.mem_of_getElem? (i := 11) rfl)) (hw _ (List.mem_of_getElem? (i := 12) rfl)) (hw _ (List.mem_of_getElem? (i := 13) rfl)) rfl (Nat.le_of_ble_eq_true rfl) (Nat.le_of_ble_eq_true rfl) ?_
  refine wp_iload_n D_jdk_42_m149_4 rfl ?_
  refine wp_if_ne D_jdk_42_m149_5 (pc'' := 27) ⟨by decide, by decide⟩ (fun h1 => ?_) (fun h1 => by exact absurd h1 (by decide))
  refine wp_getstatic D_jdk_42_m149_27 (hw _ (List.mem_of_getElem? (i := 14) rfl)) S_cp ?_
  refine wp_if_eq D_jdk_42_m149_30 (pc'' := 58) ⟨by decide, by decide⟩ (fun h2 => by exact absurd h2 hcp) (fun h2 => ?_)
  refine wp_aload_n D_jdk_42_m149_33 rfl rfl ?_
  refine wp_iload_n D_jdk_42_m149_34 rfl ?_
  refine wp_iload_n D_jdk_42_m149_35 rfl ?_
  refine wp_callS (c_cm3_2 l Z a0 hw s q c0 c1 F h_c0 h_c1) D_jdk_42_m149_36 (hw _ (List.mem_of_getElem? (i := 15) rfl)) (hw _ (List.mem_of_getElem? (i := 16) rfl)) (hw _ (List.mem_of_getElem? (i := 17) rfl)) (hw _ (List.mem_of_getElem? (i := 18) rfl)) (by decide) pd_3 rfl rfl rfl (Nat.le_of_ble_eq_true rfl) (Nat.le_of_ble_eq_true rfl) (Nat.le_of_ble_eq_true rfl) (Nat.le_of_ble_eq_true rfl) ?_
  rintro _ _ ⟨b3, rfl, rfl⟩
  show Wp none l Z "java/lang/String" "<init>" jdk_42_method_149_code 6 none ({ frames := 2, cells := 1, slots := 2, locals := 35 } : Room) ((b3, oA .byte [(nar .byte c0.toInt8.toInt32), (nar .byte c1.toInt8.toInt32)]) :: (s, oI "java/lang/String" sgStr [(.null), (.int (0 : Int32))]) :: (q, oA .char [c0, c1]) :: F) 1 2 39 #[.val (.ref s), .val (.ref q), .val (.int (0 : Int32)), .val (.int (2 : Int32)), .val (.null), .unset] [(.ref b3)] (Q_c_si4_2 s q cp c0 c1 F)
  refine wp_astore #[.val (.ref s), .val (.ref q), .val (.int (0 : Int32)), .val (.int (2 : Int32)), .val (.null), .val (.ref b3)] D_jdk_42_m149_39 rfl rfl ?_
  refine wp_aload_n D_jdk_42_m149_41 rfl rfl ?_
  refine wp_aload D_jdk_42_m149_42 rfl rfl ?_
  refine wp_iload_n D_jdk_42_m149_44 rfl ?_
  refine wp_callS (c_cfa_2 l Z a0 hw b3 s q c0 c1 F) D_jdk_42_m149_45 (hw _ (List.mem_of_getElem? (i := 23) rfl)) (hw _ (List.mem_of_getElem? (i := 24) rfl)) (hw _ (List.mem_of_getElem? (i := 17) rfl)) (hw _ (List.mem_of_getElem? (i := 25) rfl)) (by decide) pd_4 rfl rfl rfl (Nat.le_of_ble_eq_true rfl) (Nat.le_of_ble_eq_true rfl) (Nat.le_of_ble_eq_true rfl) (Nat.le_of_ble_eq_true rfl) ?_
  rintro _ _ ⟨rfl, rfl⟩
  show Wp none l Z "java/lang/String" "<init>" jdk_42_method_149_code 6 none ({ frames := 2, cells := 1, slots := 2, locals := 35 } : Room) ((b3, oA .byte [(nar .byte c0.toInt8.toInt32), (nar .byte c1.toInt8.toInt32)]) :: (s, oI "java/lang/String" sgStr [(.null), (.int (0 : Int32))]) :: (q, oA .char [c0, c1]) :: F) 1 2 48 #[.val (.ref s), .val (.ref q), .val (.int (0 : Int32)), .val (.int (2 : Int32)), .val (.null), .val (.ref b3)] [(.int (0 : Int32)), (.ref s)] (Q_c_si4_2 s q cp c0 c1 F)
  refine wp_putfield (i := 1) (fi := 1) (ty := .byte) D_jdk_42_m149_48 (hw _ (List.mem_of_getElem? (i := 26) rfl)) rfl rfl rfl (Or.inr ⟨(hw _ (List.mem_of_getElem? (i := 27) rfl)), rfl, rfl⟩) (hw _ (List.mem_of_getElem? (i := 1) rfl)) (by decide) rfl rfl ?_
  show Wp none l Z "java/lang/String" "<init>" jdk_42_method_149_code 6 none ({ frames := 2, cells := 1, slots := 2, locals := 35 } : Room) ((b3, oA .byte [(nar .byte c0.toInt8.toInt32), (nar .byte c1.toInt8.toInt32)]) :: (s, oI "java/lang/String" sgStr [(.null), (.int (0 : Int32))]) :: (q, oA .char [c0, c1]) :: F) 1 2 51 #[.val (.ref s), .val (.ref q), .val (.int (0 : Int32)), .val (.int (2 : Int32)), .val (.null), .val (.ref b3)] [] (Q_c_si4_2 s q cp c0 c1 F)
  refine wp_aload_n D_jdk_42_m149_51 rfl rfl ?_
  refine wp_aload D_jdk_42_m149_52 rfl rfl ?_
  refine wp_putfield (i := 1) (fi := 0) (ty := (.array .byte)) D_jdk_42_m149_54 (hw _ (List.mem_of_getElem? (i := 28) rfl)) rfl rfl rfl (Or.inr ⟨(hw _ (List.mem_of_getElem? (i := 29) rfl)), rfl, rfl⟩) (hw _ (List.mem_of_getElem? (i := 1) rfl)) (by decide) rfl rfl ?_
  show Wp none l Z "java/lang/String" "<init>" jdk_42_method_149_code 6 none ({ frames := 2, cells := 1, slots := 2, locals := 35 } : Room) ((b3, oA .byte [(nar .byte c0.toInt8.toInt32), (nar .byte c1.toInt8.toInt32)]) :: (s, oI "java/lang/String" sgStr [(.ref b3), (.int (0 : Int32))]) :: (q, oA .char [c0, c1]) :: F) 1 2 57 #[.val (.ref s), .val (.ref q), .val (.int (0 : Int32)), .val (.int (2 : Int32)), .val (.null), .val (.ref b3)] [] (Q_c_si4_2 s q cp c0 c1 F)
  refine wp_return D_jdk_42_m149_57 rfl (by decide) (by decide) ?_
  exact ⟨rfl, _, rfl⟩
def Q_c_si1_2 (s q : Addr) (cp : Int32) (c0 c1 : Int32) (F : OH) : Option Value → OH → Prop := fun w' H' => w' = none ∧ ∃ b, H' = ((b, oA .byte [(nar .byte c0.toInt8.toInt32), (nar .byte c1.toInt8.toInt32)]) :: (s, oI "java/lang/String" sgStr [(.ref b), (.int (0 : Int32))]) :: (q, oA .char [c0, c1]) :: F)
theorem pn_5 : plainFor (⟨"java/lang/String", "<init>", "([C)V"⟩ : MethodName) = true := by first | exact plainFor_of_name (by first | (simp [plainName, overriddenIn]; done) | decide +kernel) | decide +kernel
theorem D_jdk_42_m3_0 : Dc jdk_42_method_3_code 0 (.aload_n 0) 1 1 := ⟨by decide +kernel, rfl⟩
theorem D_jdk_42_m3_1 : Dc jdk_42_method_3_code 1 (.aload_n 1) 1 2 := ⟨by decide +kernel, rfl⟩
theorem D_jdk_42_m3_2 : Dc jdk_42_method_3_code 2 (.iconst 0) 1 3 := ⟨by decide +kernel, rfl⟩
theorem D_jdk_42_m3_3 : Dc jdk_42_method_3_code 3 (.aload_n 1) 1 4 := ⟨by decide +kernel, rfl⟩
theorem D_jdk_42_m3_4 : Dc jdk_42_method_3_code 4 (.arraylength) 1 5 := ⟨by decide +kernel, rfl⟩
theorem D_jdk_42_m3_5 : Dc jdk_42_method_3_code 5 (.aconst_null) 1 6 := ⟨by decide +kernel, rfl⟩
theorem D_jdk_42_m3_6 : Dc jdk_42_method_3_code 6 (.invokespecial 27) 3 9 := ⟨by decide +kernel, rfl⟩
theorem D_jdk_42_m3_9 : Dc jdk_42_method_3_code 9 (.return_) 1 10 := ⟨by decide +kernel, rfl⟩
set_option maxRecDepth 65536 in
set_option maxHeartbeats 40000000 in
theorem c_si1_2 (l : Launch) (Z : State) (a0 : Array Value) (hw : ∀ d ∈ tables_1, d.before a0 Z = true) (s q : Addr) (cp : Int32) (c0 c1 : Int32) (F : OH) (S_cp : Sta Z Z.heap "java/lang/String" "COMPACT_STRINGS" "Z" (.int cp)) (hcp : ¬ cp = 0) (h_c0 : 0 ≤ c0.toInt ∧ c0.toInt ≤ 255) (h_c1 : 0 ≤ c1.toInt ∧ c1.toInt ≤ 255) :
    Met l Z (⟨"java/lang/String", "<init>", "([C)V"⟩ : MethodName) jdk_42_method_3_code 2 none ({ frames := 3, cells := 1, slots := 2, locals := 52 } : Room) [(.ref s), (.ref q)] ((s, oI "java/lang/String" sgStr [(.null), (.int (0 : Int32))]) :: (q, oA .char [c0, c1]) :: F) (Q_c_si1_2 s q cp c0 c1 F) := by
  refine Met.of_wp (Ls := #[.val (.ref s), .val (.ref q)]) pn_5 (fun m => by first | rfl | (simp [entryFrame, mkF, argsToLocals, Value.category]; done)) ?_
  show Wp none l Z "java/lang/String" "<init>" jdk_42_method_3_code 2 none ({ frames := 3, cells := 1, slots := 2, locals := 52 } : Room) ((s, oI "java/lang/String" sgStr [(.null), (.int (0 : Int32))]) :: (q, oA .char [c0, c1]) :: F) 0 0 0 #[.val (.ref s), .val (.ref q)] [] (Q_c_si1_2 s q cp c0 c1 F)
  refine wp_aload_n D_jdk_42_m3_0 rfl rfl ?_
  refine wp_aload_n D_jdk_42_m3_1 rfl rfl ?_
  refine wp_iconst 0 D_jdk_42_m3_2 (by decide) ?_
  refine wp_aload_n D_jdk_42_m3_3 rfl rfl ?_
  refine wp_lengthI (i := 1) (2 : Int32) D_jdk_42_m3_4 rfl rfl ?_
  refine wp_aconst_null D_jdk_42_m3_5 ?_
  refine wp_init (c_si4_2 l Z a0 hw s q cp c0 c1 F S_cp hcp h_c0 h_c1) D_jdk_42_m3_6 rfl (hw _ (List.mem_of_getElem? (i := 7) rfl)) (hw _ (List.mem_of_getElem? (i := 8) rfl)) (hw _ (List.mem_of_getElem? (i := 2) rfl)) (hw _ (List.mem_of_getElem? (i := 10) rfl)) (by decide) pd_2 rfl rfl rfl (Nat.le_of_ble_eq_true rfl) (Nat.le_of_ble_eq_true rfl) (Nat.le_of_ble_eq_true rfl) (Nat.le_of_ble_eq_true rfl) ?_
  rintro _ _ ⟨rfl, b1, rfl⟩
  show Wp none l Z "java/lang/String" "<init>" jdk_42_method_3_code 2 none ({ frames := 3, cells := 1, slots := 2, locals := 52 } : Room) ((b1, oA .byte [(nar .byte c0.toInt8.toInt32), (nar .byte c1.toInt8.toInt32)]) :: (s, oI "java/lang/String" sgStr [(.ref b1), (.int (0 : Int32))]) :: (q, oA .char [c0, c1]) :: F) 1 2 9 #[.val (.ref s), .val (.ref q)] [] (Q_c_si1_2 s q cp c0 c1 F)
  refine wp_return D_jdk_42_m3_9 rfl (by decide) (by decide) ?_
  exact ⟨rfl, _, rfl⟩
def Q_c_cm5_1 (b s q : Addr) (c0 : Int32) (F : OH) : Option Value → OH → Prop := fun w' H' => w' = some (.int 1) ∧ H' = ((b, oA .byte [(nar .byte c0.toInt8.toInt32)]) :: (s, oI "java/lang/String" sgStr [(.null), (.int (0 : Int32))]) :: (q, oA .char [c0]) :: F)
set_option maxRecDepth 65536 in
set_option maxHeartbeats 40000000 in
theorem c_cm5_1 (l : Launch) (Z : State) (a0 : Array Value) (hw : ∀ d ∈ tables_1, d.before a0 Z = true) (b s q : Addr) (c0 : Int32) (F : OH) (h_c0 : 0 ≤ c0.toInt ∧ c0.toInt ≤ 255) :
    Met l Z (⟨"java/lang/StringUTF16", "compress", "([CI[BII)I"⟩ : MethodName) jdk_52_method_21_code 7 (some .int) ({ frames := 0, cells := 0, slots := 0, locals := 0 } : Room) [(.ref q), (.int (0 : Int32)), (.ref b), (.int (0 : Int32)), (.int (1 : Int32))] ((b, oA .byte [(0 : Int32)]) :: (s, oI "java/lang/String" sgStr [(.null), (.int (0 : Int32))]) :: (q, oA .char [c0]) :: F) (Q_c_cm5_1 b s q c0 F) := by
  refine Met.of_wp (Ls := #[.val (.ref q), .val (.int (0 : Int32)), .val (.ref b), .val (.int (0 : Int32)), .val (.int (1 : Int32)), .unset, .unset]) pn_1 (fun m => by first | rfl | (simp [entryFrame, mkF, argsToLocals, Value.category]; done)) ?_
  show Wp none l Z "java/lang/StringUTF16" "compress" jdk_52_method_21_code 7 (some .int) ({ frames := 0, cells := 0, slots := 0, locals := 0 } : Room) ((b, oA .byte [(0 : Int32)]) :: (s, oI "java/lang/String" sgStr [(.null), (.int (0 : Int32))]) :: (q, oA .char [c0]) :: F) 0 0 0 #[.val (.ref q), .val (.int (0 : Int32)), .val (.ref b), .val (.int (0 : Int32)), .val (.int (1 : Int32)), .unset, .unset] [] (Q_c_cm5_1 b s q c0 F)
  refine wp_iconst 0 D_jdk_52_m21_0 (by decide) ?_
  refine wp_istore #[.val (.ref q), .val (.int (0 : Int32)), .val (.ref b), .val (.int (0 : Int32)), .val (.int (1 : Int32)), .val (.int (0 : Int32)), .unset] D_jdk_52_m21_1 rfl ?_
  refine wp_iload D_jdk_52_m21_3 rfl ?_
  refine wp_iload D_jdk_52_m21_5 rfl ?_
  refine wp_icmp_ge D_jdk_52_m21_7 (pc'' := 44) ⟨by decide, by decide⟩ (fun h1 => by exact absurd h1 (by decide)) (fun h1 => ?_)
  refine wp_aload_n D_jdk_52_m21_10 rfl rfl ?_
  refine wp_iload_n D_jdk_52_m21_11 rfl ?_
  refine wp_caload (i := 2) (0) D_jdk_52_m21_12 rfl (by decide) (by decide) rfl ?_
  refine wp_istore #[.val (.ref q), .val (.int (0 : Int32)), .val (.ref b), .val (.int (0 : Int32)), .val (.int (1 : Int32)), .val (.int (0 : Int32)), .val (.int c0)] D_jdk_52_m21_13 rfl ?_
  refine wp_iload D_jdk_52_m21_15 rfl ?_
  refine wp_sipush 255 D_jdk_52_m21_17 (by decide) ?_
  refine wp_icmp_le D_jdk_52_m21_20 (pc'' := 26) ⟨by decide, by decide⟩ (fun h2 => ?_) (fun h2 => by exfalso; (simp only [Int32.lt_iff_toInt_lt, Int32.le_iff_toInt_le, ← Int32.toInt_inj, Int32.reduceToInt, Int64.lt_iff_toInt_lt, ← Int64.toInt_inj, Int64.reduceToInt] at *; omega))
  refine wp_aload_n D_jdk_52_m21_26 rfl rfl ?_
  refine wp_iload_n D_jdk_52_m21_27 rfl ?_
  refine wp_iload D_jdk_52_m21_28 rfl ?_
  refine wp_i2b D_jdk_52_m21_30 ?_
  refine wp_bastore (i := 0) (0) D_jdk_52_m21_31 rfl (by decide) (by decide) (by first | decide | exact Nat.le_of_ble_eq_true rfl | simp) ?_
  show Wp none l Z "java/lang/StringUTF16" "compress" jdk_52_method_21_code 7 (some .int) ({ frames := 0, cells := 0, slots := 0, locals := 0 } : Room) ((b, oA .byte [(nar .byte c0.toInt8.toInt32)]) :: (s, oI "java/lang/String" sgStr [(.null), (.int (0 : Int32))]) :: (q, oA .char [c0]) :: F) 0 0 32 #[.val (.ref q), .val (.int (0 : Int32)), .val (.ref b), .val (.int (0 : Int32)), .val (.int (1 : Int32)), .val (.int (0 : Int32)), .val (.int c0)] [] (Q_c_cm5_1 b s q c0 F)
  refine wp_iinc 1 #[.val (.ref q), .val (.int (1 : Int32)), .val (.ref b), .val (.int (0 : Int32)), .val (.int (1 : Int32)), .val (.int (0 : Int32)), .val (.int c0)] D_jdk_52_m21_32 rfl rfl (by rw [show (0 : Int32) + (1 : Int32) = (1 : Int32) from by decide]; rfl) ?_
  refine wp_iinc 1 #[.val (.ref q), .val (.int (1 : Int32)), .val (.ref b), .val (.int (1 : Int32)), .val (.int (1 : Int32)), .val (.int (0 : Int32)), .val (.int c0)] D_jdk_52_m21_35 rfl rfl (by rw [show (0 : Int32) + (1 : Int32) = (1 : Int32) from by decide]; rfl) ?_
  refine wp_iinc 1 #[.val (.ref q), .val (.int (1 : Int32)), .val (.ref b), .val (.int (1 : Int32)), .val (.int (1 : Int32)), .val (.int (1 : Int32)), .val (.int c0)] D_jdk_52_m21_38 rfl rfl (by rw [show (0 : Int32) + (1 : Int32) = (1 : Int32) from by decide]; rfl) ?_
  refine wp_goto D_jdk_52_m21_41 (pc'' := 3) ⟨by decide, by decide⟩ ?_
  refine wp_iload D_jdk_52_m21_3 rfl ?_
  refine wp_iload D_jdk_52_m21_5 rfl ?_
  refine wp_icmp_ge D_jdk_52_m21_7 (pc'' := 44) ⟨by decide, by decide⟩ (fun h3 => ?_) (fun h3 => by exact absurd h3 (by decide))
  refine wp_iload D_jdk_52_m21_44 rfl ?_
  refine wp_ireturn D_jdk_52_m21_46 rfl (by decide) (by decide) ?_
  exact ⟨rfl, rfl⟩
def Q_c_cm3_1 (s q : Addr) (c0 : Int32) (F : OH) : Option Value → OH → Prop := fun w' H' => ∃ b, w' = some (.ref b) ∧ H' = ((b, oA .byte [(nar .byte c0.toInt8.toInt32)]) :: (s, oI "java/lang/String" sgStr [(.null), (.int (0 : Int32))]) :: (q, oA .char [c0]) :: F)
set_option maxRecDepth 65536 in
set_option maxHeartbeats 40000000 in
theorem c_cm3_1 (l : Launch) (Z : State) (a0 : Array Value) (hw : ∀ d ∈ tables_1, d.before a0 Z = true) (s q : Addr) (c0 : Int32) (F : OH) (h_c0 : 0 ≤ c0.toInt ∧ c0.toInt ≤ 255) :
    Met l Z (⟨"java/lang/StringUTF16", "compress", "([CII)[B"⟩ : MethodName) jdk_52_method_16_code 6 (some (.array .byte)) ({ frames := 1, cells := 1, slots := 1, locals := 18 } : Room) [(.ref q), (.int (0 : Int32)), (.int (1 : Int32))] ((s, oI "java/lang/String" sgStr [(.null), (.int (0 : Int32))]) :: (q, oA .char [c0]) :: F) (Q_c_cm3_1 s q c0 F) := by
  refine Met.of_wp (Ls := #[.val (.ref q), .val (.int (0 : Int32)), .val (.int (1 : Int32)), .unset, .unset, .unset]) pn_2 (fun m => by first | rfl | (simp [entryFrame, mkF, argsToLocals, Value.category]; done)) ?_
  show Wp none l Z "java/lang/StringUTF16" "compress" jdk_52_method_16_code 6 (some (.array .byte)) ({ frames := 1, cells := 1, slots := 1, locals := 18 } : Room) ((s, oI "java/lang/String" sgStr [(.null), (.int (0 : Int32))]) :: (q, oA .char [c0]) :: F) 0 0 0 #[.val (.ref q), .val (.int (0 : Int32)), .val (.int (1 : Int32)), .unset, .unset, .unset] [] (Q_c_cm3_1 s q c0 F)
  refine wp_iload_n D_jdk_52_m16_0 rfl ?_
  refine wp_newarrayI (n := (1 : Int32)) (1) 1 D_jdk_52_m16_1 rfl rfl rfl (hw _ (List.mem_of_getElem? (i := 19) rfl)) (by decide) (by decide) (by decide) (by decide) (by decide) (by decide) ?_
  intro a1
  show Wp none l Z "java/lang/StringUTF16" "compress" jdk_52_method_16_code 6 (some (.array .byte)) ({ frames := 1, cells := 1, slots := 1, locals := 18 } : Room) ((a1, oA .byte [(0 : Int32)]) :: (s, oI "java/lang/String" sgStr [(.null), (.int (0 : Int32))]) :: (q, oA .char [c0]) :: F) 1 1 3 #[.val (.ref q), .val (.int (0 : Int32)), .val (.int (1 : Int32)), .unset, .unset, .unset] [(.ref a1)] (Q_c_cm3_1 s q c0 F)
  refine wp_astore_n #[.val (.ref q), .val (.int (0 : Int32)), .val (.int (1 : Int32)), .val (.ref a1), .unset, .unset] D_jdk_52_m16_3 rfl rfl ?_
  refine wp_aload_n D_jdk_52_m16_4 rfl rfl ?_
  refine wp_iload_n D_jdk_52_m16_5 rfl ?_
  refine wp_aload_n D_jdk_52_m16_6 rfl rfl ?_
  refine wp_iconst 0 D_jdk_52_m16_7 (by decide) ?_
  refine wp_iload_n D_jdk_52_m16_8 rfl ?_
  refine wp_callS (c_cm5_1 l Z a0 hw a1 s q c0 F h_c0) D_jdk_52_m16_9 (hw _ (List.mem_of_getElem? (i := 20) rfl)) (hw _ (List.mem_of_getElem? (i := 21) rfl)) (hw _ (List.mem_of_getElem? (i := 17) rfl)) (hw _ (List.mem_of_getElem? (i := 22) rfl)) (by decide) pd_1 rfl rfl rfl (Nat.le_of_ble_eq_true rfl) (Nat.le_of_ble_eq_true rfl) (Nat.le_of_ble_eq_true rfl) (Nat.le_of_ble_eq_true rfl) ?_
  rintro _ _ ⟨rfl, rfl⟩
  show Wp none l Z "java/lang/StringUTF16" "compress" jdk_52_method_16_code 6 (some (.array .byte)) ({ frames := 1, cells := 1, slots := 1, locals := 18 } : Room) ((a1, oA .byte [(nar .byte c0.toInt8.toInt32)]) :: (s, oI "java/lang/String" sgStr [(.null), (.int (0 : Int32))]) :: (q, oA .char [c0]) :: F) 1 1 12 #[.val (.ref q), .val (.int (0 : Int32)), .val (.int (1 : Int32)), .val (.ref a1), .unset, .unset] [(.int (1 : Int32))] (Q_c_cm3_1 s q c0 F)
  refine wp_istore #[.val (.ref q), .val (.int (0 : Int32)), .val (.int (1 : Int32)), .val (.ref a1), .val (.int (1 : Int32)), .unset] D_jdk_52_m16_12 rfl ?_
  refine wp_iload D_jdk_52_m16_14 rfl ?_
  refine wp_iload_n D_jdk_52_m16_16 rfl ?_
  refine wp_icmp_eq D_jdk_52_m16_17 (pc'' := 57) ⟨by decide, by decide⟩ (fun h2 => ?_) (fun h2 => by exact absurd h2 (by decide))
  refine wp_aload_n D_jdk_52_m16_57 rfl rfl ?_
  refine wp_areturn D_jdk_52_m16_58 rfl rfl rfl rfl (by decide) (by decide) ?_
  exact ⟨_, rfl, rfl⟩
def Q_c_cfa_1 (b s q : Addr) (c0 : Int32) (F : OH) : Option Value → OH → Prop := fun w' H' => w' = some (.int 0) ∧ H' = ((b, oA .byte [(nar .byte c0.toInt8.toInt32)]) :: (s, oI "java/lang/String" sgStr [(.null), (.int (0 : Int32))]) :: (q, oA .char [c0]) :: F)
set_option maxRecDepth 65536 in
set_option maxHeartbeats 40000000 in
theorem c_cfa_1 (l : Launch) (Z : State) (a0 : Array Value) (hw : ∀ d ∈ tables_1, d.before a0 Z = true) (b s q : Addr) (c0 : Int32) (F : OH) :
    Met l Z (⟨"java/lang/StringUTF16", "coderFromArrayLen", "([BI)B"⟩ : MethodName) jdk_52_method_15_code 2 (some .byte) ({ frames := 0, cells := 0, slots := 0, locals := 0 } : Room) [(.ref b), (.int (1 : Int32))] ((b, oA .byte [(nar .byte c0.toInt8.toInt32)]) :: (s, oI "java/lang/String" sgStr [(.null), (.int (0 : Int32))]) :: (q, oA .char [c0]) :: F) (Q_c_cfa_1 b s q c0 F) := by
  refine Met.of_wp (Ls := #[.val (.ref b), .val (.int (1 : Int32))]) pn_3 (fun m => by first | rfl | (simp [entryFrame, mkF, argsToLocals, Value.category]; done)) ?_
  show Wp none l Z "java/lang/StringUTF16" "coderFromArrayLen" jdk_52_method_15_code 2 (some .byte) ({ frames := 0, cells := 0, slots := 0, locals := 0 } : Room) ((b, oA .byte [(nar .byte c0.toInt8.toInt32)]) :: (s, oI "java/lang/String" sgStr [(.null), (.int (0 : Int32))]) :: (q, oA .char [c0]) :: F) 0 0 0 #[.val (.ref b), .val (.int (1 : Int32))] [] (Q_c_cfa_1 b s q c0 F)
  refine wp_iload_n D_jdk_52_m15_0 rfl ?_
  refine wp_aload_n D_jdk_52_m15_1 rfl rfl ?_
  refine wp_lengthI (i := 0) (1 : Int32) D_jdk_52_m15_2 rfl rfl ?_
  refine wp_isub D_jdk_52_m15_3 ?_
  rw [show ((1 : Int32) - (1 : Int32)) = (0 : Int32) from by decide]
  refine wp_bipush 31 D_jdk_52_m15_4 (by decide) ?_
  refine wp_iushr D_jdk_52_m15_6 ?_
  rw [show (XT.ushr (0 : Int32) (31 : Int32)) = (0 : Int32) from by decide]
  refine wp_i2b D_jdk_52_m15_7 ?_
  rw [show (0 : Int32).toInt8.toInt32 = (0 : Int32) from by decide]
  refine wp_ireturnN D_jdk_52_m15_8 rfl (by simp) (by decide) (by decide) ?_
  exact ⟨rfl, rfl⟩
def Q_c_si4_1 (s q : Addr) (cp : Int32) (c0 : Int32) (F : OH) : Option Value → OH → Prop := fun w' H' => w' = none ∧ ∃ b, H' = ((b, oA .byte [(nar .byte c0.toInt8.toInt32)]) :: (s, oI "java/lang/String" sgStr [(.ref b), (.int (0 : Int32))]) :: (q, oA .char [c0]) :: F)
set_option maxRecDepth 65536 in
set_option maxHeartbeats 40000000 in
theorem c_si4_1 (l : Launch) (Z : State) (a0 : Array Value) (hw : ∀ d ∈ tables_1, d.before a0 Z = true) (s q : Addr) (cp : Int32) (c0 : Int32) (F : OH) (S_cp : Sta Z Z.heap "java/lang/String" "COMPACT_STRINGS" "Z" (.int cp)) (hcp : ¬ cp = 0) (h_c0 : 0 ≤ c0.toInt ∧ c0.toInt ≤ 255) :
    Met l Z (⟨"java/lang/String", "<init>", "([CIILjava/lang/Void;)V"⟩ : MethodName) jdk_42_method_149_code 6 none ({ frames := 2, cells := 1, slots := 1, locals := 35 } : Room) [(.ref s), (.ref q), (.int (0 : Int32)), (.int (1 : Int32)), (.null)] ((s, oI "java/lang/String" sgStr [(.null), (.int (0 : Int32))]) :: (q, oA .char [c0]) :: F) (Q_c_si4_1 s q cp c0 F) := by
  refine Met.of_wp (Ls := #[.val (.ref s), .val (.ref q), .val (.int (0 : Int32)), .val (.int (1 : Int32)), .val (.null), .unset]) pn_4 (fun m => by first | rfl | (simp [entryFrame, mkF, argsToLocals, Value.category]; done)) ?_
  show Wp none l Z "java/lang/String" "<init>" jdk_42_method_149_code 6 none ({ frames := 2, cells := 1, slots := 1, locals := 35 } : Room) ((s, oI "java/lang/String" sgStr [(.null), (.int (0 : Int32))]) :: (q, oA .char [c0]) :: F) 0 0 0 #[.val (.ref s), .val (.ref q), .val (.int (0 : Int32)), .val (.int (1 : Int32)), .val (.null), .unset] [] (Q_c_si4_1 s q cp c0 F)
  refine wp_aload_n D_jdk_42_m149_0 rfl rfl ?_
  refine wp_initO D_jdk_42_m149_1 (hw _ (List.mem_of_getElem? (i := 11) rfl)) (hw _ (List.mem_of_getElem? (i := 12) rfl)) (hw _ (List.mem_of_getElem? (i := 13) rfl)) rfl (Nat.le_of_ble_eq_true rfl) (Nat.le_of_ble_eq_true rfl) ?_
  refine wp_iload_n D_jdk_42_m149_4 rfl ?_
  refine wp_if_ne D_jdk_42_m149_5 (pc'' := 27) ⟨by decide, by decide⟩ (fun h1 => ?_) (fun h1 => by exact absurd h1 (by decide))
  refine wp_getstatic D_jdk_42_m149_27 (hw _ (List.mem_of_getElem? (i := 14) rfl)) S_cp ?_
  refine wp_if_eq D_jdk_42_m149_30 (pc'' := 58) ⟨by decide, by decide⟩ (fun h2 => by exact absurd h2 hcp) (fun h2 => ?_)
  refine wp_aload_n D_jdk_42_m149_33 rfl rfl ?_
  refine wp_iload_n D_jdk_42_m149_34 rfl ?_
  refine wp_iload_n D_jdk_42_m149_35 rfl ?_
  refine wp_callS (c_cm3_1 l Z a0 hw s q c0 F h_c0) D_jdk_42_m149_36 (hw _ (List.mem_of_getElem? (i := 15) rfl)) (hw _ (List.mem_of_getElem? (i := 16) rfl)) (hw _ (List.mem_of_getElem? (i := 17) rfl)) (hw _ (List.mem_of_getElem? (i := 18) rfl)) (by decide) pd_3 rfl rfl rfl (Nat.le_of_ble_eq_true rfl) (Nat.le_of_ble_eq_true rfl) (Nat.le_of_ble_eq_true rfl) (Nat.le_of_ble_eq_true rfl) ?_
  rintro _ _ ⟨b3, rfl, rfl⟩
  show Wp none l Z "java/lang/String" "<init>" jdk_42_method_149_code 6 none ({ frames := 2, cells := 1, slots := 1, locals := 35 } : Room) ((b3, oA .byte [(nar .byte c0.toInt8.toInt32)]) :: (s, oI "java/lang/String" sgStr [(.null), (.int (0 : Int32))]) :: (q, oA .char [c0]) :: F) 1 1 39 #[.val (.ref s), .val (.ref q), .val (.int (0 : Int32)), .val (.int (1 : Int32)), .val (.null), .unset] [(.ref b3)] (Q_c_si4_1 s q cp c0 F)
  refine wp_astore #[.val (.ref s), .val (.ref q), .val (.int (0 : Int32)), .val (.int (1 : Int32)), .val (.null), .val (.ref b3)] D_jdk_42_m149_39 rfl rfl ?_
  refine wp_aload_n D_jdk_42_m149_41 rfl rfl ?_
  refine wp_aload D_jdk_42_m149_42 rfl rfl ?_
  refine wp_iload_n D_jdk_42_m149_44 rfl ?_
  refine wp_callS (c_cfa_1 l Z a0 hw b3 s q c0 F) D_jdk_42_m149_45 (hw _ (List.mem_of_getElem? (i := 23) rfl)) (hw _ (List.mem_of_getElem? (i := 24) rfl)) (hw _ (List.mem_of_getElem? (i := 17) rfl)) (hw _ (List.mem_of_getElem? (i := 25) rfl)) (by decide) pd_4 rfl rfl rfl (Nat.le_of_ble_eq_true rfl) (Nat.le_of_ble_eq_true rfl) (Nat.le_of_ble_eq_true rfl) (Nat.le_of_ble_eq_true rfl) ?_
  rintro _ _ ⟨rfl, rfl⟩
  show Wp none l Z "java/lang/String" "<init>" jdk_42_method_149_code 6 none ({ frames := 2, cells := 1, slots := 1, locals := 35 } : Room) ((b3, oA .byte [(nar .byte c0.toInt8.toInt32)]) :: (s, oI "java/lang/String" sgStr [(.null), (.int (0 : Int32))]) :: (q, oA .char [c0]) :: F) 1 1 48 #[.val (.ref s), .val (.ref q), .val (.int (0 : Int32)), .val (.int (1 : Int32)), .val (.null), .val (.ref b3)] [(.int (0 : Int32)), (.ref s)] (Q_c_si4_1 s q cp c0 F)
  refine wp_putfield (i := 1) (fi := 1) (ty := .byte) D_jdk_42_m149_48 (hw _ (List.mem_of_getElem? (i := 26) rfl)) rfl rfl rfl (Or.inr ⟨(hw _ (List.mem_of_getElem? (i := 27) rfl)), rfl, rfl⟩) (hw _ (List.mem_of_getElem? (i := 1) rfl)) (by decide) rfl rfl ?_
  show Wp none l Z "java/lang/String" "<init>" jdk_42_method_149_code 6 none ({ frames := 2, cells := 1, slots := 1, locals := 35 } : Room) ((b3, oA .byte [(nar .byte c0.toInt8.toInt32)]) :: (s, oI "java/lang/String" sgStr [(.null), (.int (0 : Int32))]) :: (q, oA .char [c0]) :: F) 1 1 51 #[.val (.ref s), .val (.ref q), .val (.int (0 : Int32)), .val (.int (1 : Int32)), .val (.null), .val (.ref b3)] [] (Q_c_si4_1 s q cp c0 F)
  refine wp_aload_n D_jdk_42_m149_51 rfl rfl ?_
  refine wp_aload D_jdk_42_m149_52 rfl rfl ?_
  refine wp_putfield (i := 1) (fi := 0) (ty := (.array .byte)) D_jdk_42_m149_54 (hw _ (List.mem_of_getElem? (i := 28) rfl)) rfl rfl rfl (Or.inr ⟨(hw _ (List.mem_of_getElem? (i := 29) rfl)), rfl, rfl⟩) (hw _ (List.mem_of_getElem? (i := 1) rfl)) (by decide) rfl rfl ?_
  show Wp none l Z "java/lang/String" "<init>" jdk_42_method_149_code 6 none ({ frames := 2, cells := 1, slots := 1, locals := 35 } : Room) ((b3, oA .byte [(nar .byte c0.toInt8.toInt32)]) :: (s, oI "java/lang/String" sgStr [(.ref b3), (.int (0 : Int32))]) :: (q, oA .char [c0]) :: F) 1 1 57 #[.val (.ref s), .val (.ref q), .val (.int (0 : Int32)), .val (.int (1 : Int32)), .val (.null), .val (.ref b3)] [] (Q_c_si4_1 s q cp c0 F)
  refine wp_return D_jdk_42_m149_57 rfl (by decide) (by decide) ?_
  exact ⟨rfl, _, rfl⟩
def Q_c_si1_1 (s q : Addr) (cp : Int32) (c0 : Int32) (F : OH) : Option Value → OH → Prop := fun w' H' => w' = none ∧ ∃ b, H' = ((b, oA .byte [(nar .byte c0.toInt8.toInt32)]) :: (s, oI "java/lang/String" sgStr [(.ref b), (.int (0 : Int32))]) :: (q, oA .char [c0]) :: F)
set_option maxRecDepth 65536 in
set_option maxHeartbeats 40000000 in
theorem c_si1_1 (l : Launch) (Z : State) (a0 : Array Value) (hw : ∀ d ∈ tables_1, d.before a0 Z = true) (s q : Addr) (cp : Int32) (c0 : Int32) (F : OH) (S_cp : Sta Z Z.heap "java/lang/String" "COMPACT_STRINGS" "Z" (.int cp)) (hcp : ¬ cp = 0) (h_c0 : 0 ≤ c0.toInt ∧ c0.toInt ≤ 255) :
    Met l Z (⟨"java/lang/String", "<init>", "([C)V"⟩ : MethodName) jdk_42_method_3_code 2 none ({ frames := 3, cells := 1, slots := 1, locals := 52 } : Room) [(.ref s), (.ref q)] ((s, oI "java/lang/String" sgStr [(.null), (.int (0 : Int32))]) :: (q, oA .char [c0]) :: F) (Q_c_si1_1 s q cp c0 F) := by
  refine Met.of_wp (Ls := #[.val (.ref s), .val (.ref q)]) pn_5 (fun m => by first | rfl | (simp [entryFrame, mkF, argsToLocals, Value.category]; done)) ?_
  show Wp none l Z "java/lang/String" "<init>" jdk_42_method_3_code 2 none ({ frames := 3, cells := 1, slots := 1, locals := 52 } : Room) ((s, oI "java/lang/String" sgStr [(.null), (.int (0 : Int32))]) :: (q, oA .char [c0]) :: F) 0 0 0 #[.val (.ref s), .val (.ref q)] [] (Q_c_si1_1 s q cp c0 F)
  refine wp_aload_n D_jdk_42_m3_0 rfl rfl ?_
  refine wp_aload_n D_jdk_42_m3_1 rfl rfl ?_
  refine wp_iconst 0 D_jdk_42_m3_2 (by decide) ?_
  refine wp_aload_n D_jdk_42_m3_3 rfl rfl ?_
  refine wp_lengthI (i := 1) (1 : Int32) D_jdk_42_m3_4 rfl rfl ?_
  refine wp_aconst_null D_jdk_42_m3_5 ?_
  refine wp_init (c_si4_1 l Z a0 hw s q cp c0 F S_cp hcp h_c0) D_jdk_42_m3_6 rfl (hw _ (List.mem_of_getElem? (i := 7) rfl)) (hw _ (List.mem_of_getElem? (i := 8) rfl)) (hw _ (List.mem_of_getElem? (i := 2) rfl)) (hw _ (List.mem_of_getElem? (i := 10) rfl)) (by decide) pd_2 rfl rfl rfl (Nat.le_of_ble_eq_true rfl) (Nat.le_of_ble_eq_true rfl) (Nat.le_of_ble_eq_true rfl) (Nat.le_of_ble_eq_true rfl) ?_
  rintro _ _ ⟨rfl, b1, rfl⟩
  show Wp none l Z "java/lang/String" "<init>" jdk_42_method_3_code 2 none ({ frames := 3, cells := 1, slots := 1, locals := 52 } : Room) ((b1, oA .byte [(nar .byte c0.toInt8.toInt32)]) :: (s, oI "java/lang/String" sgStr [(.ref b1), (.int (0 : Int32))]) :: (q, oA .char [c0]) :: F) 1 1 9 #[.val (.ref s), .val (.ref q)] [] (Q_c_si1_1 s q cp c0 F)
  refine wp_return D_jdk_42_m3_9 rfl (by decide) (by decide) ?_
  exact ⟨rfl, _, rfl⟩
theorem pn_6 : plainFor (⟨"com/example/dalles/dalles/schema/Sequence", "<init>", "(Ljava/lang/String;Ljava/lang/String;)V"⟩ : MethodName) = true := by first | exact plainFor_of_name (by first | (simp [plainName, overriddenIn]; done) | decide +kernel) | decide +kernel
theorem D_prog_55_m1_0 : Dc prog_55_method_1_code 0 (.aload_n 0) 1 1 := ⟨by decide +kernel, rfl⟩
theorem D_prog_55_m1_1 : Dc prog_55_method_1_code 1 (.invokespecial 1) 3 4 := ⟨by decide +kernel, rfl⟩
theorem D_prog_55_m1_4 : Dc prog_55_method_1_code 4 (.aload_n 0) 1 5 := ⟨by decide +kernel, rfl⟩
theorem D_prog_55_m1_5 : Dc prog_55_method_1_code 5 (.aload_n 1) 1 6 := ⟨by decide +kernel, rfl⟩
theorem D_prog_55_m1_6 : Dc prog_55_method_1_code 6 (.putfield 7) 3 9 := ⟨by decide +kernel, rfl⟩
theorem D_prog_55_m1_9 : Dc prog_55_method_1_code 9 (.aload_n 0) 1 10 := ⟨by decide +kernel, rfl⟩
theorem D_prog_55_m1_10 : Dc prog_55_method_1_code 10 (.aload_n 2) 1 11 := ⟨by decide +kernel, rfl⟩
theorem D_prog_55_m1_11 : Dc prog_55_method_1_code 11 (.putfield 13) 3 14 := ⟨by decide +kernel, rfl⟩
theorem D_prog_55_m1_14 : Dc prog_55_method_1_code 14 (.return_) 1 15 := ⟨by decide +kernel, rfl⟩
def Q_c_seq (o x y : Addr) (F : OH) : Option Value → OH → Prop := fun v H' => v = none ∧ H' = (o, oI "com/example/dalles/dalles/schema/Sequence" sg_1 [(.ref x), (.ref y)]) :: F
set_option maxRecDepth 65536 in
set_option maxHeartbeats 40000000 in
theorem c_seq (l : Launch) (Z : State) (a0 : Array Value) (hw : ∀ d ∈ tables_1, d.before a0 Z = true) (o x y : Addr) (F : OH)  :
    Met l Z (⟨"com/example/dalles/dalles/schema/Sequence", "<init>", "(Ljava/lang/String;Ljava/lang/String;)V"⟩ : MethodName) prog_55_method_1_code 3 none ({ frames := 1, cells := 0, slots := 0, locals := 12 } : Room) [(.ref o), (.ref x), (.ref y)] ((o, oI "com/example/dalles/dalles/schema/Sequence" sg_1 [(.null), (.null)]) :: F) (Q_c_seq o x y F) := by
  refine Met.of_wp (Ls := #[.val (.ref o), .val (.ref x), .val (.ref y)]) pn_6 (fun m => by first | rfl | (simp [entryFrame, mkF, argsToLocals, Value.category]; done)) ?_
  show Wp none l Z "com/example/dalles/dalles/schema/Sequence" "<init>" prog_55_method_1_code 3 none ({ frames := 1, cells := 0, slots := 0, locals := 12 } : Room) ((o, oI "com/example/dalles/dalles/schema/Sequence" sg_1 [(.null), (.null)]) :: F) 0 0 0 #[.val (.ref o), .val (.ref x), .val (.ref y)] [] (Q_c_seq o x y F)
  refine wp_aload_n D_prog_55_m1_0 rfl rfl ?_
  refine wp_initO D_prog_55_m1_1 (hw _ (List.mem_of_getElem? (i := 36) rfl)) (hw _ (List.mem_of_getElem? (i := 12) rfl)) (hw _ (List.mem_of_getElem? (i := 13) rfl)) rfl (Nat.le_of_ble_eq_true rfl) (Nat.le_of_ble_eq_true rfl) ?_
  refine wp_aload_n D_prog_55_m1_4 rfl rfl ?_
  refine wp_aload_n D_prog_55_m1_5 rfl rfl ?_
  refine wp_putfield (i := 0) (fi := 0) (ty := (.object "java/lang/String")) D_prog_55_m1_6 (hw _ (List.mem_of_getElem? (i := 37) rfl)) rfl rfl rfl (Or.inr ⟨(hw _ (List.mem_of_getElem? (i := 38) rfl)), rfl, rfl⟩) (hw _ (List.mem_of_getElem? (i := 31) rfl)) (by decide) rfl rfl ?_
  show Wp none l Z "com/example/dalles/dalles/schema/Sequence" "<init>" prog_55_method_1_code 3 none ({ frames := 1, cells := 0, slots := 0, locals := 12 } : Room) ((o, oI "com/example/dalles/dalles/schema/Sequence" sg_1 [(.ref x), (.null)]) :: F) 0 0 9 #[.val (.ref o), .val (.ref x), .val (.ref y)] [] (Q_c_seq o x y F)
  refine wp_aload_n D_prog_55_m1_9 rfl rfl ?_
  refine wp_aload_n D_prog_55_m1_10 rfl rfl ?_
  refine wp_putfield (i := 0) (fi := 1) (ty := (.object "java/lang/String")) D_prog_55_m1_11 (hw _ (List.mem_of_getElem? (i := 39) rfl)) rfl rfl rfl (Or.inr ⟨(hw _ (List.mem_of_getElem? (i := 40) rfl)), rfl, rfl⟩) (hw _ (List.mem_of_getElem? (i := 31) rfl)) (by decide) rfl rfl ?_
  show Wp none l Z "com/example/dalles/dalles/schema/Sequence" "<init>" prog_55_method_1_code 3 none ({ frames := 1, cells := 0, slots := 0, locals := 12 } : Room) ((o, oI "com/example/dalles/dalles/schema/Sequence" sg_1 [(.ref x), (.ref y)]) :: F) 0 0 14 #[.val (.ref o), .val (.ref x), .val (.ref y)] [] (Q_c_seq o x y F)
  refine wp_return D_prog_55_m1_14 rfl (by decide) (by decide) ?_
  exact ⟨rfl, rfl⟩
theorem pn_7 : plainFor (⟨"java/util/Optional", "empty", "()Ljava/util/Optional;"⟩ : MethodName) = true := by first | exact plainFor_of_name (by first | (simp [plainName, overriddenIn]; done) | decide +kernel) | decide +kernel
theorem D_jdk_32_m1_0 : Dc jdk_32_method_1_code 0 (.getstatic 1) 3 3 := ⟨by decide +kernel, rfl⟩
theorem D_jdk_32_m1_3 : Dc jdk_32_method_1_code 3 (.astore_n 0) 1 4 := ⟨by decide +kernel, rfl⟩
theorem D_jdk_32_m1_4 : Dc jdk_32_method_1_code 4 (.aload_n 0) 1 5 := ⟨by decide +kernel, rfl⟩
theorem D_jdk_32_m1_5 : Dc jdk_32_method_1_code 5 (.areturn) 1 6 := ⟨by decide +kernel, rfl⟩
def Q_c_emp (aE : Addr) (H : OH) : Option Value → OH → Prop := fun v H' => v = some (.ref aE) ∧ H' = H
set_option maxRecDepth 65536 in
set_option maxHeartbeats 40000000 in
theorem c_emp (l : Launch) (Z : State) (a0 : Array Value) (hw : ∀ d ∈ tables_1, d.before a0 Z = true) (aE : Addr) (H : OH) (S_E : Sta Z Z.heap "java/util/Optional" "EMPTY" "Ljava/util/Optional;" (.ref aE)):
    Met l Z (⟨"java/util/Optional", "empty", "()Ljava/util/Optional;"⟩ : MethodName) jdk_32_method_1_code 1 (some (.object "java/util/Optional")) ({ frames := 0, cells := 0, slots := 0, locals := 0 } : Room) [] H (Q_c_emp aE H) := by
  refine Met.of_wp (Ls := #[.unset]) pn_7 (fun m => by first | rfl | (simp [entryFrame, mkF, argsToLocals, Value.category]; done)) ?_
  show Wp none l Z "java/util/Optional" "empty" jdk_32_method_1_code 1 (some (.object "java/util/Optional")) ({ frames := 0, cells := 0, slots := 0, locals := 0 } : Room) H 0 0 0 #[.unset] [] (Q_c_emp aE H)
  refine wp_getstatic D_jdk_32_m1_0 (hw _ (List.mem_of_getElem? (i := 57) rfl)) S_E ?_
  refine wp_astore_n #[.val (.ref aE)] D_jdk_32_m1_3 rfl rfl ?_
  refine wp_aload_n D_jdk_32_m1_4 rfl rfl ?_
  refine wp_areturn D_jdk_32_m1_5 rfl rfl rfl rfl (by decide) (by decide) ?_
  exact ⟨rfl, rfl⟩
theorem pd_5 : parseMethodDescriptor "()Ljava/util/Optional;" = some ⟨[], (some (.object "java/util/Optional"))⟩ := by decide +kernel
theorem pd_6 : parseMethodDescriptor "(Ljava/lang/String;Ljava/lang/String;I)V" = some ⟨[(.object "java/lang/String"), (.object "java/lang/String"), .int], none⟩ := by decide +kernel
theorem pd_7 : parseMethodDescriptor "(Lcom/example/dalles/dalles/schema/PostgreSqlColumn;)V" = some ⟨[(.object "com/example/dalles/dalles/schema/PostgreSqlColumn")], none⟩ := by decide +kernel
theorem pd_8 : parseMethodDescriptor "(Lcom/example/dalles/dalles/schema/Fill;)V" = some ⟨[(.object "com/example/dalles/dalles/schema/Fill")], none⟩ := by decide +kernel
theorem pn_8 : plainFor (⟨"com/example/dalles/dalles/schema/PostgreSqlColumn", "<init>", "(Ljava/lang/String;Ljava/lang/String;I)V"⟩ : MethodName) = true := by first | exact plainFor_of_name (by first | (simp [plainName, overriddenIn]; done) | decide +kernel) | decide +kernel
theorem D_prog_46_m1_0 : Dc prog_46_method_1_code 0 (.aload_n 0) 1 1 := ⟨by decide +kernel, rfl⟩
theorem D_prog_46_m1_1 : Dc prog_46_method_1_code 1 (.invokespecial 1) 3 4 := ⟨by decide +kernel, rfl⟩
theorem D_prog_46_m1_4 : Dc prog_46_method_1_code 4 (.aload_n 0) 1 5 := ⟨by decide +kernel, rfl⟩
theorem D_prog_46_m1_5 : Dc prog_46_method_1_code 5 (.getstatic 7) 3 8 := ⟨by decide +kernel, rfl⟩
theorem D_prog_46_m1_8 : Dc prog_46_method_1_code 8 (.putfield 13) 3 11 := ⟨by decide +kernel, rfl⟩
theorem D_prog_46_m1_11 : Dc prog_46_method_1_code 11 (.aload_n 0) 1 12 := ⟨by decide +kernel, rfl⟩
theorem D_prog_46_m1_12 : Dc prog_46_method_1_code 12 (.invokestatic 18) 3 15 := ⟨by decide +kernel, rfl⟩
theorem D_prog_46_m1_15 : Dc prog_46_method_1_code 15 (.putfield 24) 3 18 := ⟨by decide +kernel, rfl⟩
theorem D_prog_46_m1_18 : Dc prog_46_method_1_code 18 (.aload_n 0) 1 19 := ⟨by decide +kernel, rfl⟩
theorem D_prog_46_m1_19 : Dc prog_46_method_1_code 19 (.aload_n 1) 1 20 := ⟨by decide +kernel, rfl⟩
theorem D_prog_46_m1_20 : Dc prog_46_method_1_code 20 (.putfield 28) 3 23 := ⟨by decide +kernel, rfl⟩
theorem D_prog_46_m1_23 : Dc prog_46_method_1_code 23 (.aload_n 0) 1 24 := ⟨by decide +kernel, rfl⟩
theorem D_prog_46_m1_24 : Dc prog_46_method_1_code 24 (.aload_n 2) 1 25 := ⟨by decide +kernel, rfl⟩
theorem D_prog_46_m1_25 : Dc prog_46_method_1_code 25 (.putfield 32) 3 28 := ⟨by decide +kernel, rfl⟩
theorem D_prog_46_m1_28 : Dc prog_46_method_1_code 28 (.aload_n 0) 1 29 := ⟨by decide +kernel, rfl⟩
theorem D_prog_46_m1_29 : Dc prog_46_method_1_code 29 (.iload_n 3) 1 30 := ⟨by decide +kernel, rfl⟩
theorem D_prog_46_m1_30 : Dc prog_46_method_1_code 30 (.putfield 35) 3 33 := ⟨by decide +kernel, rfl⟩
theorem D_prog_46_m1_33 : Dc prog_46_method_1_code 33 (.return_) 1 34 := ⟨by decide +kernel, rfl⟩
def Q_c_col (o x y : Addr) (n : Int32) (aN aE : Addr) (F : OH) : Option Value → OH → Prop := fun v H' => v = none ∧ H' = (o, oI "com/example/dalles/dalles/schema/PostgreSqlColumn" sg_2 [(.ref aN), (.ref aE), (.ref x), (.ref y), (.int n), (.null), (.int (0 : Int32))]) :: F
set_option maxRecDepth 65536 in
set_option maxHeartbeats 40000000 in
theorem c_col (l : Launch) (Z : State) (a0 : Array Value) (hw : ∀ d ∈ tables_1, d.before a0 Z = true) (o x y : Addr) (n : Int32) (aN aE : Addr) (F : OH)  (S_N : Sta Z Z.heap "com/example/dalles/dalles/schema/Fill" "NONE" "Lcom/example/dalles/dalles/schema/Fill;" (.ref aN)) (S_E : Sta Z Z.heap "java/util/Optional" "EMPTY" "Ljava/util/Optional;" (.ref aE)):
    Met l Z (⟨"com/example/dalles/dalles/schema/PostgreSqlColumn", "<init>", "(Ljava/lang/String;Ljava/lang/String;I)V"⟩ : MethodName) prog_46_method_1_code 4 none ({ frames := 1, cells := 0, slots := 0, locals := 14 } : Room) [(.ref o), (.ref x), (.ref y), (.int n)] ((o, oI "com/example/dalles/dalles/schema/PostgreSqlColumn" sg_2 [(.null), (.null), (.null), (.null), (.int (0 : Int32)), (.null), (.int (0 : Int32))]) :: F) (Q_c_col o x y n aN aE F) := by
  refine Met.of_wp (Ls := #[.val (.ref o), .val (.ref x), .val (.ref y), .val (.int n)]) pn_8 (fun m => by first | rfl | (simp [entryFrame, mkF, argsToLocals, Value.category]; done)) ?_
  show Wp none l Z "com/example/dalles/dalles/schema/PostgreSqlColumn" "<init>" prog_46_method_1_code 4 none ({ frames := 1, cells := 0, slots := 0, locals := 14 } : Room) ((o, oI "com/example/dalles/dalles/schema/PostgreSqlColumn" sg_2 [(.null), (.null), (.null), (.null), (.int (0 : Int32)), (.null), (.int (0 : Int32))]) :: F) 0 0 0 #[.val (.ref o), .val (.ref x), .val (.ref y), .val (.int n)] [] (Q_c_col o x y n aN aE F)
  refine wp_aload_n D_prog_46_m1_0 rfl rfl ?_
  refine wp_initO D_prog_46_m1_1 (hw _ (List.mem_of_getElem? (i := 47) rfl)) (hw _ (List.mem_of_getElem? (i := 12) rfl)) (hw _ (List.mem_of_getElem? (i := 13) rfl)) rfl (Nat.le_of_ble_eq_true rfl) (Nat.le_of_ble_eq_true rfl) ?_
  refine wp_aload_n D_prog_46_m1_4 rfl rfl ?_
  refine wp_getstatic D_prog_46_m1_5 (hw _ (List.mem_of_getElem? (i := 48) rfl)) S_N ?_
  refine wp_putfield (i := 0) (fi := 0) (ty := (.object "com/example/dalles/dalles/schema/Fill")) D_prog_46_m1_8 (hw _ (List.mem_of_getElem? (i := 51) rfl)) rfl rfl rfl (Or.inl (hw _ (List.mem_of_getElem? (i := 52) rfl))) (hw _ (List.mem_of_getElem? (i := 42) rfl)) (by decide) rfl rfl ?_
  show Wp none l Z "com/example/dalles/dalles/schema/PostgreSqlColumn" "<init>" prog_46_method_1_code 4 none ({ frames := 1, cells := 0, slots := 0, locals := 14 } : Room) ((o, oI "com/example/dalles/dalles/schema/PostgreSqlColumn" sg_2 [(.ref aN), (.null), (.null), (.null), (.int (0 : Int32)), (.null), (.int (0 : Int32))]) :: F) 0 0 11 #[.val (.ref o), .val (.ref x), .val (.ref y), .val (.int n)] [] (Q_c_col o x y n aN aE F)
  refine wp_aload_n D_prog_46_m1_11 rfl rfl ?_
  refine wp_callS (c_emp l Z a0 hw aE ((o, oI "com/example/dalles/dalles/schema/PostgreSqlColumn" sg_2 [(.ref aN), (.null), (.null), (.null), (.int (0 : Int32)), (.null), (.int (0 : Int32))]) :: F) S_E) D_prog_46_m1_12 (hw _ (List.mem_of_getElem? (i := 53) rfl)) (hw _ (List.mem_of_getElem? (i := 54) rfl)) (hw _ (List.mem_of_getElem? (i := 55) rfl)) (hw _ (List.mem_of_getElem? (i := 56) rfl)) (by decide) pd_5 rfl rfl rfl (Nat.le_of_ble_eq_true rfl) (Nat.le_of_ble_eq_true rfl) (Nat.le_of_ble_eq_true rfl) (Nat.le_of_ble_eq_true rfl) ?_
  rintro _ _ ⟨rfl, rfl⟩
  show Wp none l Z "com/example/dalles/dalles/schema/PostgreSqlColumn" "<init>" prog_46_method_1_code 4 none ({ frames := 1, cells := 0, slots := 0, locals := 14 } : Room) ((o, oI "com/example/dalles/dalles/schema/PostgreSqlColumn" sg_2 [(.ref aN), (.null), (.null), (.null), (.int (0 : Int32)), (.null), (.int (0 : Int32))]) :: F) 0 0 15 #[.val (.ref o), .val (.ref x), .val (.ref y), .val (.int n)] [(.ref aE), (.ref o)] (Q_c_col o x y n aN aE F)
  refine wp_putfield (i := 0) (fi := 1) (ty := (.object "java/util/Optional")) D_prog_46_m1_15 (hw _ (List.mem_of_getElem? (i := 58) rfl)) rfl rfl rfl (Or.inl (hw _ (List.mem_of_getElem? (i := 59) rfl))) (hw _ (List.mem_of_getElem? (i := 42) rfl)) (by decide) rfl rfl ?_
  show Wp none l Z "com/example/dalles/dalles/schema/PostgreSqlColumn" "<init>" prog_46_method_1_code 4 none ({ frames := 1, cells := 0, slots := 0, locals := 14 } : Room) ((o, oI "com/example/dalles/dalles/schema/PostgreSqlColumn" sg_2 [(.ref aN), (.ref aE), (.null), (.null), (.int (0 : Int32)), (.null), (.int (0 : Int32))]) :: F) 0 0 18 #[.val (.ref o), .val (.ref x), .val (.ref y), .val (.int n)] [] (Q_c_col o x y n aN aE F)
  refine wp_aload_n D_prog_46_m1_18 rfl rfl ?_
  refine wp_aload_n D_prog_46_m1_19 rfl rfl ?_
  refine wp_putfield (i := 0) (fi := 2) (ty := (.object "java/lang/String")) D_prog_46_m1_20 (hw _ (List.mem_of_getElem? (i := 60) rfl)) rfl rfl rfl (Or.inr ⟨(hw _ (List.mem_of_getElem? (i := 61) rfl)), rfl, rfl⟩) (hw _ (List.mem_of_getElem? (i := 42) rfl)) (by decide) rfl rfl ?_
  show Wp none l Z "com/example/dalles/dalles/schema/PostgreSqlColumn" "<init>" prog_46_method_1_code 4 none ({ frames := 1, cells := 0, slots := 0, locals := 14 } : Room) ((o, oI "com/example/dalles/dalles/schema/PostgreSqlColumn" sg_2 [(.ref aN), (.ref aE), (.ref x), (.null), (.int (0 : Int32)), (.null), (.int (0 : Int32))]) :: F) 0 0 23 #[.val (.ref o), .val (.ref x), .val (.ref y), .val (.int n)] [] (Q_c_col o x y n aN aE F)
  refine wp_aload_n D_prog_46_m1_23 rfl rfl ?_
  refine wp_aload_n D_prog_46_m1_24 rfl rfl ?_
  refine wp_putfield (i := 0) (fi := 3) (ty := (.object "java/lang/String")) D_prog_46_m1_25 (hw _ (List.mem_of_getElem? (i := 62) rfl)) rfl rfl rfl (Or.inr ⟨(hw _ (List.mem_of_getElem? (i := 63) rfl)), rfl, rfl⟩) (hw _ (List.mem_of_getElem? (i := 42) rfl)) (by decide) rfl rfl ?_
  show Wp none l Z "com/example/dalles/dalles/schema/PostgreSqlColumn" "<init>" prog_46_method_1_code 4 none ({ frames := 1, cells := 0, slots := 0, locals := 14 } : Room) ((o, oI "com/example/dalles/dalles/schema/PostgreSqlColumn" sg_2 [(.ref aN), (.ref aE), (.ref x), (.ref y), (.int (0 : Int32)), (.null), (.int (0 : Int32))]) :: F) 0 0 28 #[.val (.ref o), .val (.ref x), .val (.ref y), .val (.int n)] [] (Q_c_col o x y n aN aE F)
  refine wp_aload_n D_prog_46_m1_28 rfl rfl ?_
  refine wp_iload_n D_prog_46_m1_29 rfl ?_
  refine wp_putfield (i := 0) (fi := 4) (ty := .int) D_prog_46_m1_30 (hw _ (List.mem_of_getElem? (i := 64) rfl)) rfl rfl rfl (Or.inr ⟨(hw _ (List.mem_of_getElem? (i := 65) rfl)), rfl, rfl⟩) (hw _ (List.mem_of_getElem? (i := 42) rfl)) (by decide) rfl rfl ?_
  show Wp none l Z "com/example/dalles/dalles/schema/PostgreSqlColumn" "<init>" prog_46_method_1_code 4 none ({ frames := 1, cells := 0, slots := 0, locals := 14 } : Room) ((o, oI "com/example/dalles/dalles/schema/PostgreSqlColumn" sg_2 [(.ref aN), (.ref aE), (.ref x), (.ref y), (.int n), (.null), (.int (0 : Int32))]) :: F) 0 0 33 #[.val (.ref o), .val (.ref x), .val (.ref y), .val (.int n)] [] (Q_c_col o x y n aN aE F)
  refine wp_return D_prog_46_m1_33 rfl (by decide) (by decide) ?_
  exact ⟨rfl, rfl⟩
theorem pn_9 : plainFor (⟨"com/example/dalles/dalles/schema/PostgreSqlColumn", "setDefault", "(Lcom/example/dalles/dalles/schema/Fill;)V"⟩ : MethodName) = true := by first | exact plainFor_of_name (by first | (simp [plainName, overriddenIn]; done) | decide +kernel) | decide +kernel
theorem D_prog_46_m4_0 : Dc prog_46_method_4_code 0 (.aload_n 0) 1 1 := ⟨by decide +kernel, rfl⟩
theorem D_prog_46_m4_1 : Dc prog_46_method_4_code 1 (.iconst 1) 1 2 := ⟨by decide +kernel, rfl⟩
theorem D_prog_46_m4_2 : Dc prog_46_method_4_code 2 (.putfield 39) 3 5 := ⟨by decide +kernel, rfl⟩
theorem D_prog_46_m4_5 : Dc prog_46_method_4_code 5 (.aload_n 0) 1 6 := ⟨by decide +kernel, rfl⟩
theorem D_prog_46_m4_6 : Dc prog_46_method_4_code 6 (.aload_n 1) 1 7 := ⟨by decide +kernel, rfl⟩
theorem D_prog_46_m4_7 : Dc prog_46_method_4_code 7 (.putfield 13) 3 10 := ⟨by decide +kernel, rfl⟩
theorem D_prog_46_m4_10 : Dc prog_46_method_4_code 10 (.return_) 1 11 := ⟨by decide +kernel, rfl⟩
def Q_c_set (z : Addr) (o : Addr) (d x y : Addr) (n g : Int32) (i : Value) (aE : Addr) (F : OH) : Option Value → OH → Prop := fun v H' => v = none ∧ H' = (o, oI "com/example/dalles/dalles/schema/PostgreSqlColumn" sg_2 [(.ref z), (.ref aE), (.ref x), (.ref y), (.int n), i, (.int (1 : Int32))]) :: F
set_option maxRecDepth 65536 in
set_option maxHeartbeats 40000000 in
theorem c_set (l : Launch) (Z : State) (a0 : Array Value) (hw : ∀ d ∈ tables_1, d.before a0 Z = true) (z : Addr) (o : Addr) (d x y : Addr) (n g : Int32) (i : Value) (aE : Addr) (F : OH)  :
    Met l Z (⟨"com/example/dalles/dalles/schema/PostgreSqlColumn", "setDefault", "(Lcom/example/dalles/dalles/schema/Fill;)V"⟩ : MethodName) prog_46_method_4_code 2 none ({ frames := 0, cells := 0, slots := 0, locals := 0 } : Room) [(.ref o), (.ref z)] ((o, oI "com/example/dalles/dalles/schema/PostgreSqlColumn" sg_2 [(.ref d), (.ref aE), (.ref x), (.ref y), (.int n), i, (.int g)]) :: F) (Q_c_set z o d x y n g i aE F) := by
  refine Met.of_wp (Ls := #[.val (.ref o), .val (.ref z)]) pn_9 (fun m => by first | rfl | (simp [entryFrame, mkF, argsToLocals, Value.category]; done)) ?_
  show Wp none l Z "com/example/dalles/dalles/schema/PostgreSqlColumn" "setDefault" prog_46_method_4_code 2 none ({ frames := 0, cells := 0, slots := 0, locals := 0 } : Room) ((o, oI "com/example/dalles/dalles/schema/PostgreSqlColumn" sg_2 [(.ref d), (.ref aE), (.ref x), (.ref y), (.int n), i, (.int g)]) :: F) 0 0 0 #[.val (.ref o), .val (.ref z)] [] (Q_c_set z o d x y n g i aE F)
  refine wp_aload_n D_prog_46_m4_0 rfl rfl ?_
  refine wp_iconst 1 D_prog_46_m4_1 (by decide) ?_
  refine wp_putfield (i := 0) (fi := 6) (ty := .boolean) D_prog_46_m4_2 (hw _ (List.mem_of_getElem? (i := 83) rfl)) rfl rfl rfl (Or.inl (hw _ (List.mem_of_getElem? (i := 84) rfl))) (hw _ (List.mem_of_getElem? (i := 42) rfl)) (by decide) rfl rfl ?_
  show Wp none l Z "com/example/dalles/dalles/schema/PostgreSqlColumn" "setDefault" prog_46_method_4_code 2 none ({ frames := 0, cells := 0, slots := 0, locals := 0 } : Room) ((o, oI "com/example/dalles/dalles/schema/PostgreSqlColumn" sg_2 [(.ref d), (.ref aE), (.ref x), (.ref y), (.int n), i, (.int (1 : Int32))]) :: F) 0 0 5 #[.val (.ref o), .val (.ref z)] [] (Q_c_set z o d x y n g i aE F)
  refine wp_aload_n D_prog_46_m4_5 rfl rfl ?_
  refine wp_aload_n D_prog_46_m4_6 rfl rfl ?_
  refine wp_putfield (i := 0) (fi := 0) (ty := (.object "com/example/dalles/dalles/schema/Fill")) D_prog_46_m4_7 (hw _ (List.mem_of_getElem? (i := 51) rfl)) rfl rfl rfl (Or.inl (hw _ (List.mem_of_getElem? (i := 52) rfl))) (hw _ (List.mem_of_getElem? (i := 42) rfl)) (by decide) rfl rfl ?_
  show Wp none l Z "com/example/dalles/dalles/schema/PostgreSqlColumn" "setDefault" prog_46_method_4_code 2 none ({ frames := 0, cells := 0, slots := 0, locals := 0 } : Room) ((o, oI "com/example/dalles/dalles/schema/PostgreSqlColumn" sg_2 [(.ref z), (.ref aE), (.ref x), (.ref y), (.int n), i, (.int (1 : Int32))]) :: F) 0 0 10 #[.val (.ref o), .val (.ref z)] [] (Q_c_set z o d x y n g i aE F)
  refine wp_return D_prog_46_m4_10 rfl (by decide) (by decide) ?_
  exact ⟨rfl, rfl⟩
theorem pn_10 : plainFor (⟨"com/example/dalles/dalles/schema/PostgreSqlColumn", "makeIdentity", "(Lcom/example/dalles/dalles/schema/Sequence;)V"⟩ : MethodName) = true := by first | exact plainFor_of_name (by first | (simp [plainName, overriddenIn]; done) | decide +kernel) | decide +kernel
theorem D_prog_46_m5_0 : Dc prog_46_method_5_code 0 (.aload_n 0) 1 1 := ⟨by decide +kernel, rfl⟩
theorem D_prog_46_m5_1 : Dc prog_46_method_5_code 1 (.aload_n 1) 1 2 := ⟨by decide +kernel, rfl⟩
theorem D_prog_46_m5_2 : Dc prog_46_method_5_code 2 (.putfield 43) 3 5 := ⟨by decide +kernel, rfl⟩
theorem D_prog_46_m5_5 : Dc prog_46_method_5_code 5 (.return_) 1 6 := ⟨by decide +kernel, rfl⟩
def Q_c_mk (z : Addr) (o : Addr) (d x y : Addr) (n g : Int32) (i : Value) (aE : Addr) (F : OH) : Option Value → OH → Prop := fun v H' => v = none ∧ H' = (o, oI "com/example/dalles/dalles/schema/PostgreSqlColumn" sg_2 [(.ref d), (.ref aE), (.ref x), (.ref y), (.int n), (.ref z), (.int g)]) :: F
set_option maxRecDepth 65536 in
set_option maxHeartbeats 40000000 in
theorem c_mk (l : Launch) (Z : State) (a0 : Array Value) (hw : ∀ d ∈ tables_1, d.before a0 Z = true) (z : Addr) (o : Addr) (d x y : Addr) (n g : Int32) (i : Value) (aE : Addr) (F : OH)  :
    Met l Z (⟨"com/example/dalles/dalles/schema/PostgreSqlColumn", "makeIdentity", "(Lcom/example/dalles/dalles/schema/Sequence;)V"⟩ : MethodName) prog_46_method_5_code 2 none ({ frames := 0, cells := 0, slots := 0, locals := 0 } : Room) [(.ref o), (.ref z)] ((o, oI "com/example/dalles/dalles/schema/PostgreSqlColumn" sg_2 [(.ref d), (.ref aE), (.ref x), (.ref y), (.int n), i, (.int g)]) :: F) (Q_c_mk z o d x y n g i aE F) := by
  refine Met.of_wp (Ls := #[.val (.ref o), .val (.ref z)]) pn_10 (fun m => by first | rfl | (simp [entryFrame, mkF, argsToLocals, Value.category]; done)) ?_
  show Wp none l Z "com/example/dalles/dalles/schema/PostgreSqlColumn" "makeIdentity" prog_46_method_5_code 2 none ({ frames := 0, cells := 0, slots := 0, locals := 0 } : Room) ((o, oI "com/example/dalles/dalles/schema/PostgreSqlColumn" sg_2 [(.ref d), (.ref aE), (.ref x), (.ref y), (.int n), i, (.int g)]) :: F) 0 0 0 #[.val (.ref o), .val (.ref z)] [] (Q_c_mk z o d x y n g i aE F)
  refine wp_aload_n D_prog_46_m5_0 rfl rfl ?_
  refine wp_aload_n D_prog_46_m5_1 rfl rfl ?_
  refine wp_putfield (i := 0) (fi := 5) (ty := (.object "com/example/dalles/dalles/schema/Sequence")) D_prog_46_m5_2 (hw _ (List.mem_of_getElem? (i := 71) rfl)) rfl rfl rfl (Or.inl (hw _ (List.mem_of_getElem? (i := 72) rfl))) (hw _ (List.mem_of_getElem? (i := 42) rfl)) (by decide) rfl rfl ?_
  show Wp none l Z "com/example/dalles/dalles/schema/PostgreSqlColumn" "makeIdentity" prog_46_method_5_code 2 none ({ frames := 0, cells := 0, slots := 0, locals := 0 } : Room) ((o, oI "com/example/dalles/dalles/schema/PostgreSqlColumn" sg_2 [(.ref d), (.ref aE), (.ref x), (.ref y), (.int n), (.ref z), (.int g)]) :: F) 0 0 5 #[.val (.ref o), .val (.ref z)] [] (Q_c_mk z o d x y n g i aE F)
  refine wp_return D_prog_46_m5_5 rfl (by decide) (by decide) ?_
  exact ⟨rfl, rfl⟩
theorem pn_11 : plainFor (⟨"com/example/dalles/dalles/schema/PostgreSqlColumn", "isIdentity", "()Z"⟩ : MethodName) = true := by first | exact plainFor_of_name (by first | (simp [plainName, overriddenIn]; done) | decide +kernel) | decide +kernel
theorem D_prog_46_m6_0 : Dc prog_46_method_6_code 0 (.aload_n 0) 1 1 := ⟨by decide +kernel, rfl⟩
theorem D_prog_46_m6_1 : Dc prog_46_method_6_code 1 (.getfield 43) 3 4 := ⟨by decide +kernel, rfl⟩
theorem D_prog_46_m6_4 : Dc prog_46_method_6_code 4 (.ifnull 7) 3 7 := ⟨by decide +kernel, rfl⟩
theorem D_prog_46_m6_7 : Dc prog_46_method_6_code 7 (.iconst 1) 1 8 := ⟨by decide +kernel, rfl⟩
theorem D_prog_46_m6_8 : Dc prog_46_method_6_code 8 (.goto 4) 3 11 := ⟨by decide +kernel, rfl⟩
theorem D_prog_46_m6_11 : Dc prog_46_method_6_code 11 (.iconst 0) 1 12 := ⟨by decide +kernel, rfl⟩
theorem D_prog_46_m6_12 : Dc prog_46_method_6_code 12 (.ireturn) 1 13 := ⟨by decide +kernel, rfl⟩
def Q_c_id0 (o : Addr) (d x y : Addr) (n g : Int32) (aE : Addr) (F : OH) : Option Value → OH → Prop := fun v H' => v = some (.int 0) ∧ H' = (o, oI "com/example/dalles/dalles/schema/PostgreSqlColumn" sg_2 [(.ref d), (.ref aE), (.ref x), (.ref y), (.int n), (.null), (.int g)]) :: F
set_option maxRecDepth 65536 in
set_option maxHeartbeats 40000000 in
theorem c_id0 (l : Launch) (Z : State) (a0 : Array Value) (hw : ∀ d ∈ tables_1, d.before a0 Z = true) (o : Addr) (d x y : Addr) (n g : Int32) (aE : Addr) (F : OH)  :
    Met l Z (⟨"com/example/dalles/dalles/schema/PostgreSqlColumn", "isIdentity", "()Z"⟩ : MethodName) prog_46_method_6_code 1 (some .boolean) ({ frames := 0, cells := 0, slots := 0, locals := 0 } : Room) [(.ref o)] ((o, oI "com/example/dalles/dalles/schema/PostgreSqlColumn" sg_2 [(.ref d), (.ref aE), (.ref x), (.ref y), (.int n), (.null), (.int g)]) :: F) (Q_c_id0 o d x y n g aE F) := by
  refine Met.of_wp (Ls := #[.val (.ref o)]) pn_11 (fun m => by first | rfl | (simp [entryFrame, mkF, argsToLocals, Value.category]; done)) ?_
  show Wp none l Z "com/example/dalles/dalles/schema/PostgreSqlColumn" "isIdentity" prog_46_method_6_code 1 (some .boolean) ({ frames := 0, cells := 0, slots := 0, locals := 0 } : Room) ((o, oI "com/example/dalles/dalles/schema/PostgreSqlColumn" sg_2 [(.ref d), (.ref aE), (.ref x), (.ref y), (.int n), (.null), (.int g)]) :: F) 0 0 0 #[.val (.ref o)] [] (Q_c_id0 o d x y n g aE F)
  refine wp_aload_n D_prog_46_m6_0 rfl rfl ?_
  refine wp_getfield D_prog_46_m6_1 (hw _ (List.mem_of_getElem? (i := 71) rfl)) (fld_new (i := 0) (fi := 5) rfl rfl rfl) ?_
  refine wp_ifnull_y D_prog_46_m6_4 (pc'' := 11) ⟨by decide, by decide⟩ ?_
  refine wp_iconst 0 D_prog_46_m6_11 (by decide) ?_
  refine wp_ireturnN D_prog_46_m6_12 rfl (by simp) (by decide) (by decide) ?_
  exact ⟨rfl, rfl⟩
def Q_c_id1 (z : Addr) (o : Addr) (d x y : Addr) (n g : Int32) (aE : Addr) (F : OH) : Option Value → OH → Prop := fun v H' => v = some (.int 1) ∧ H' = (o, oI "com/example/dalles/dalles/schema/PostgreSqlColumn" sg_2 [(.ref d), (.ref aE), (.ref x), (.ref y), (.int n), (.ref z), (.int g)]) :: F
set_option maxRecDepth 65536 in
set_option maxHeartbeats 40000000 in
theorem c_id1 (l : Launch) (Z : State) (a0 : Array Value) (hw : ∀ d ∈ tables_1, d.before a0 Z = true) (z : Addr) (o : Addr) (d x y : Addr) (n g : Int32) (aE : Addr) (F : OH)  :
    Met l Z (⟨"com/example/dalles/dalles/schema/PostgreSqlColumn", "isIdentity", "()Z"⟩ : MethodName) prog_46_method_6_code 1 (some .boolean) ({ frames := 0, cells := 0, slots := 0, locals := 0 } : Room) [(.ref o)] ((o, oI "com/example/dalles/dalles/schema/PostgreSqlColumn" sg_2 [(.ref d), (.ref aE), (.ref x), (.ref y), (.int n), (.ref z), (.int g)]) :: F) (Q_c_id1 z o d x y n g aE F) := by
  refine Met.of_wp (Ls := #[.val (.ref o)]) pn_11 (fun m => by first | rfl | (simp [entryFrame, mkF, argsToLocals, Value.category]; done)) ?_
  show Wp none l Z "com/example/dalles/dalles/schema/PostgreSqlColumn" "isIdentity" prog_46_method_6_code 1 (some .boolean) ({ frames := 0, cells := 0, slots := 0, locals := 0 } : Room) ((o, oI "com/example/dalles/dalles/schema/PostgreSqlColumn" sg_2 [(.ref d), (.ref aE), (.ref x), (.ref y), (.int n), (.ref z), (.int g)]) :: F) 0 0 0 #[.val (.ref o)] [] (Q_c_id1 z o d x y n g aE F)
  refine wp_aload_n D_prog_46_m6_0 rfl rfl ?_
  refine wp_getfield D_prog_46_m6_1 (hw _ (List.mem_of_getElem? (i := 71) rfl)) (fld_new (i := 0) (fi := 5) rfl rfl rfl) ?_
  refine wp_ifnull_n D_prog_46_m6_4 ?_
  refine wp_iconst 1 D_prog_46_m6_7 (by decide) ?_
  refine wp_goto D_prog_46_m6_8 (pc'' := 12) ⟨by decide, by decide⟩ ?_
  refine wp_ireturnN D_prog_46_m6_12 rfl (by simp) (by decide) (by decide) ?_
  exact ⟨rfl, rfl⟩
def fh (h g : Int32) : Int32 := if h = 0 then (if g = 0 then h else 1) else h
def fd (h g : Int32) (d z : Addr) : Addr := if h = 0 then (if g = 0 then d else z) else d
def pk (aN aR : Addr) (k : Int32) : Addr := if k = 0 then aN else aR
theorem pn_12 : plainFor (⟨"com/example/dalles/dalles/schema/PostgreSqlColumn", "inheritDefault", "(Lcom/example/dalles/dalles/schema/PostgreSqlColumn;)V"⟩ : MethodName) = true := by first | exact plainFor_of_name (by first | (simp [plainName, overriddenIn]; done) | decide +kernel) | decide +kernel
theorem D_prog_46_m10_0 : Dc prog_46_method_10_code 0 (.aload_n 0) 1 1 := ⟨by decide +kernel, rfl⟩
theorem D_prog_46_m10_1 : Dc prog_46_method_10_code 1 (.getfield 39) 3 4 := ⟨by decide +kernel, rfl⟩
theorem D_prog_46_m10_4 : Dc prog_46_method_10_code 4 (.ifCond .ne 18) 3 7 := ⟨by decide +kernel, rfl⟩
theorem D_prog_46_m10_7 : Dc prog_46_method_10_code 7 (.aload_n 1) 1 8 := ⟨by decide +kernel, rfl⟩
theorem D_prog_46_m10_8 : Dc prog_46_method_10_code 8 (.getfield 39) 3 11 := ⟨by decide +kernel, rfl⟩
theorem D_prog_46_m10_11 : Dc prog_46_method_10_code 11 (.ifCond .eq 11) 3 14 := ⟨by decide +kernel, rfl⟩
theorem D_prog_46_m10_14 : Dc prog_46_method_10_code 14 (.aload_n 0) 1 15 := ⟨by decide +kernel, rfl⟩
theorem D_prog_46_m10_15 : Dc prog_46_method_10_code 15 (.aload_n 1) 1 16 := ⟨by decide +kernel, rfl⟩
theorem D_prog_46_m10_16 : Dc prog_46_method_10_code 16 (.getfield 13) 3 19 := ⟨by decide +kernel, rfl⟩
theorem D_prog_46_m10_19 : Dc prog_46_method_10_code 19 (.invokevirtual 68) 3 22 := ⟨by decide +kernel, rfl⟩
theorem D_prog_46_m10_22 : Dc prog_46_method_10_code 22 (.return_) 1 23 := ⟨by decide +kernel, rfl⟩
def Q_c_inh (o1 o2 : Addr) (d1 x1 y1 : Addr) (n1 g1 : Int32) (i1 : Value) (d2 x2 y2 : Addr) (n2 g2 : Int32) (i2 : Value) (aE : Addr) (F : OH) : Option Value → OH → Prop := fun v H' => v = none ∧ H' = (o1, oI "com/example/dalles/dalles/schema/PostgreSqlColumn" sg_2 [(.ref (fd g1 g2 d1 d2)), (.ref aE), (.ref x1), (.ref y1), (.int n1), i1, (.int (fh g1 g2))]) :: (o2, oI "com/example/dalles/dalles/schema/PostgreSqlColumn" sg_2 [(.ref d2), (.ref aE), (.ref x2), (.ref y2), (.int n2), i2, (.int g2)]) :: F
set_option maxRecDepth 65536 in
set_option maxHeartbeats 40000000 in
theorem c_inh (l : Launch) (Z : State) (a0 : Array Value) (hw : ∀ d ∈ tables_1, d.before a0 Z = true) (o1 o2 : Addr) (d1 x1 y1 : Addr) (n1 g1 : Int32) (i1 : Value) (d2 x2 y2 : Addr) (n2 g2 : Int32) (i2 : Value) (aE : Addr) (F : OH)  :
    Met l Z (⟨"com/example/dalles/dalles/schema/PostgreSqlColumn", "inheritDefault", "(Lcom/example/dalles/dalles/schema/PostgreSqlColumn;)V"⟩ : MethodName) prog_46_method_10_code 2 none ({ frames := 1, cells := 0, slots := 0, locals := 13 } : Room) [(.ref o1), (.ref o2)] ((o1, oI "com/example/dalles/dalles/schema/PostgreSqlColumn" sg_2 [(.ref d1), (.ref aE), (.ref x1), (.ref y1), (.int n1), i1, (.int g1)]) :: (o2, oI "com/example/dalles/dalles/schema/PostgreSqlColumn" sg_2 [(.ref d2), (.ref aE), (.ref x2), (.ref y2), (.int n2), i2, (.int g2)]) :: F) (Q_c_inh o1 o2 d1 x1 y1 n1 g1 i1 d2 x2 y2 n2 g2 i2 aE F) := by
  refine Met.of_wp (Ls := #[.val (.ref o1), .val (.ref o2)]) pn_12 (fun m => by first | rfl | (simp [entryFrame, mkF, argsToLocals, Value.category]; done)) ?_
  show Wp none l Z "com/example/dalles/dalles/schema/PostgreSqlColumn" "inheritDefault" prog_46_method_10_code 2 none ({ frames := 1, cells := 0, slots := 0, locals := 13 } : Room) ((o1, oI "com/example/dalles/dalles/schema/PostgreSqlColumn" sg_2 [(.ref d1), (.ref aE), (.ref x1), (.ref y1), (.int n1), i1, (.int g1)]) :: (o2, oI "com/example/dalles/dalles/schema/PostgreSqlColumn" sg_2 [(.ref d2), (.ref aE), (.ref x2), (.ref y2), (.int n2), i2, (.int g2)]) :: F) 0 0 0 #[.val (.ref o1), .val (.ref o2)] [] (Q_c_inh o1 o2 d1 x1 y1 n1 g1 i1 d2 x2 y2 n2 g2 i2 aE F)
  refine wp_aload_n D_prog_46_m10_0 rfl rfl ?_
  refine wp_getfield D_prog_46_m10_1 (hw _ (List.mem_of_getElem? (i := 83) rfl)) (fld_new (i := 0) (fi := 6) rfl rfl rfl) ?_
  refine wp_if_ne D_prog_46_m10_4 (pc'' := 22) ⟨by decide, by decide⟩ (fun h1 => ?_) (fun h1 => ?_)
  · skip
    refine wp_return D_prog_46_m10_22 rfl (by decide) (by decide) ?_
    exact ⟨rfl, by simp [fh, fd, h1]⟩
  · skip
    refine wp_aload_n D_prog_46_m10_7 rfl rfl ?_
    refine wp_getfield D_prog_46_m10_8 (hw _ (List.mem_of_getElem? (i := 83) rfl)) (fld_new (i := 1) (fi := 6) rfl rfl rfl) ?_
    refine wp_if_eq D_prog_46_m10_11 (pc'' := 22) ⟨by decide, by decide⟩ (fun h2 => ?_) (fun h2 => ?_)
    · skip
      refine wp_return D_prog_46_m10_22 rfl (by decide) (by decide) ?_
      exact ⟨rfl, by simp [fh, fd, h1, h2]⟩
    · skip
      refine wp_aload_n D_prog_46_m10_14 rfl rfl ?_
      refine wp_aload_n D_prog_46_m10_15 rfl rfl ?_
      refine wp_getfield D_prog_46_m10_16 (hw _ (List.mem_of_getElem? (i := 51) rfl)) (fld_new (i := 1) (fi := 0) rfl rfl rfl) ?_
      refine wp_virtual (c_set l Z a0 hw d2 o1 d1 x1 y1 n1 g1 i1 aE ((o2, oI "com/example/dalles/dalles/schema/PostgreSqlColumn" sg_2 [(.ref d2), (.ref aE), (.ref x2), (.ref y2), (.int n2), i2, (.int g2)]) :: F)) (exa_new (i := 0) rfl) D_prog_46_m10_19 (hw _ (List.mem_of_getElem? (i := 102) rfl)) (hw _ (List.mem_of_getElem? (i := 79) rfl)) (hw _ (List.mem_of_getElem? (i := 81) rfl)) (hw _ (List.mem_of_getElem? (i := 81) rfl)) (hw _ (List.mem_of_getElem? (i := 80) rfl)) (hw _ (List.mem_of_getElem? (i := 43) rfl)) (hw _ (List.mem_of_getElem? (i := 82) rfl)) (by decide) pd_8 rfl rfl rfl (Nat.le_of_ble_eq_true rfl) (Nat.le_of_ble_eq_true rfl) (Nat.le_of_ble_eq_true rfl) (Nat.le_of_ble_eq_true rfl) ?_
      rintro _ _ ⟨rfl, rfl⟩
      show Wp none l Z "com/example/dalles/dalles/schema/PostgreSqlColumn" "inheritDefault" prog_46_method_10_code 2 none ({ frames := 1, cells := 0, slots := 0, locals := 13 } : Room) ((o1, oI "com/example/dalles/dalles/schema/PostgreSqlColumn" sg_2 [(.ref d2), (.ref aE), (.ref x1), (.ref y1), (.int n1), i1, (.int (1 : Int32))]) :: (o2, oI "com/example/dalles/dalles/schema/PostgreSqlColumn" sg_2 [(.ref d2), (.ref aE), (.ref x2), (.ref y2), (.int n2), i2, (.int g2)]) :: F) 0 0 22 #[.val (.ref o1), .val (.ref o2)] [] (Q_c_inh o1 o2 d1 x1 y1 n1 g1 i1 d2 x2 y2 n2 g2 i2 aE F)
      refine wp_return D_prog_46_m10_22 rfl (by decide) (by decide) ?_
      exact ⟨rfl, by simp [fh, fd, h1, h2]⟩
theorem pd_9 : parseMethodDescriptor "([C)V" = some ⟨[(.array .char)], none⟩ := by decide +kernel
theorem pd_10 : parseMethodDescriptor "(Ljava/lang/String;Ljava/lang/String;)V" = some ⟨[(.object "java/lang/String"), (.object "java/lang/String")], none⟩ := by decide +kernel
theorem pd_11 : parseMethodDescriptor "()Z" = some ⟨[], (some .boolean)⟩ := by decide +kernel
theorem pd_12 : parseMethodDescriptor "(I)Lcom/example/dalles/dalles/schema/Fill;" = some ⟨[.int], (some (.object "com/example/dalles/dalles/schema/Fill"))⟩ := by decide +kernel
theorem pd_13 : parseMethodDescriptor "(Z)Lcom/example/dalles/dalles/schema/PostgreSqlColumn;" = some ⟨[.boolean], (some (.object "com/example/dalles/dalles/schema/PostgreSqlColumn"))⟩ := by decide +kernel
theorem pd_14 : parseMethodDescriptor "(Lcom/example/dalles/dalles/schema/Sequence;)V" = some ⟨[(.object "com/example/dalles/dalles/schema/Sequence")], none⟩ := by decide +kernel
theorem pn_13 : plainFor (⟨"com/example/dalles/dalles/schema/PostgreSqlColumnIsIdentityPinLaw", "pick", "(I)Lcom/example/dalles/dalles/schema/Fill;"⟩ : MethodName) = true := by first | exact plainFor_of_name (by first | (simp [plainName, overriddenIn]; done) | decide +kernel) | decide +kernel
theorem D_m2_0 : Dc method_2_code 0 (.iload_n 0) 1 1 := ⟨by decide +kernel, rfl⟩
theorem D_m2_1 : Dc method_2_code 1 (.ifCond .eq 9) 3 4 := ⟨by decide +kernel, rfl⟩
theorem D_m2_4 : Dc method_2_code 4 (.getstatic 7) 3 7 := ⟨by decide +kernel, rfl⟩
theorem D_m2_7 : Dc method_2_code 7 (.goto 6) 3 10 := ⟨by decide +kernel, rfl⟩
theorem D_m2_10 : Dc method_2_code 10 (.getstatic 13) 3 13 := ⟨by decide +kernel, rfl⟩
theorem D_m2_13 : Dc method_2_code 13 (.areturn) 1 14 := ⟨by decide +kernel, rfl⟩
def Q_c_pick (k : Int32) (aN aR : Addr) (H : OH) : Option Value → OH → Prop := fun v H' => v = some (.ref (pk aN aR k)) ∧ H' = H
set_option maxRecDepth 65536 in
set_option maxHeartbeats 40000000 in
theorem c_pick (l : Launch) (Z : State) (a0 : Array Value) (hw : ∀ d ∈ tables_1, d.before a0 Z = true) (k : Int32) (aN aR : Addr) (H : OH) (S_N : Sta Z Z.heap "com/example/dalles/dalles/schema/Fill" "NONE" "Lcom/example/dalles/dalles/schema/Fill;" (.ref aN)) (S_R : Sta Z Z.heap "com/example/dalles/dalles/schema/Fill" "RANDOM_UUID" "Lcom/example/dalles/dalles/schema/Fill;" (.ref aR)):
    Met l Z (⟨"com/example/dalles/dalles/schema/PostgreSqlColumnIsIdentityPinLaw", "pick", "(I)Lcom/example/dalles/dalles/schema/Fill;"⟩ : MethodName) method_2_code 1 (some (.object "com/example/dalles/dalles/schema/Fill")) ({ frames := 0, cells := 0, slots := 0, locals := 0 } : Room) [(.int k)] H (Q_c_pick k aN aR H) := by
  refine Met.of_wp (Ls := #[.val (.int k)]) pn_13 (fun m => by first | rfl | (simp [entryFrame, mkF, argsToLocals, Value.category]; done)) ?_
  show Wp none l Z "com/example/dalles/dalles/schema/PostgreSqlColumnIsIdentityPinLaw" "pick" method_2_code 1 (some (.object "com/example/dalles/dalles/schema/Fill")) ({ frames := 0, cells := 0, slots := 0, locals := 0 } : Room) H 0 0 0 #[.val (.int k)] [] (Q_c_pick k aN aR H)
  refine wp_iload_n D_m2_0 rfl ?_
  refine wp_if_eq D_m2_1 (pc'' := 10) ⟨by decide, by decide⟩ (fun h1 => ?_) (fun h1 => ?_)
  · skip
    refine wp_getstatic D_m2_10 (hw _ (List.mem_of_getElem? (i := 77) rfl)) S_N ?_
    refine wp_areturn D_m2_13 rfl rfl rfl rfl (by decide) (by decide) ?_
    exact ⟨by simp [pk, h1], rfl⟩
  · skip
    refine wp_getstatic D_m2_4 (hw _ (List.mem_of_getElem? (i := 103) rfl)) S_R ?_
    refine wp_goto D_m2_7 (pc'' := 13) ⟨by decide, by decide⟩ ?_
    refine wp_areturn D_m2_13 rfl rfl rfl rfl (by decide) (by decide) ?_
    exact ⟨by simp [pk, h1], rfl⟩
def Q_c_copy (o : Addr) (d x y : Addr) (n g : Int32) (i : Value) (aE : Addr) (F : OH) : Option Value → OH → Prop := fun v H' => ∃ p d' g', v = some (.ref p) ∧ H' = (p, oI "com/example/dalles/dalles/schema/PostgreSqlColumn" sg_2 [(.ref d'), (.ref aE), (.ref x), (.ref y), (.int n), (.null), (.int g')]) :: (o, oI "com/example/dalles/dalles/schema/PostgreSqlColumn" sg_2 [(.ref d), (.ref aE), (.ref x), (.ref y), (.int n), i, (.int g)]) :: F
theorem pn_14 : plainFor (⟨"com/example/dalles/dalles/schema/PostgreSqlColumn", "copy", "(Z)Lcom/example/dalles/dalles/schema/PostgreSqlColumn;"⟩ : MethodName) = true := by first | exact plainFor_of_name (by first | (simp [plainName, overriddenIn]; done) | decide +kernel) | decide +kernel
theorem pd_15 : parseMethodDescriptor "()V" = some ⟨[], none⟩ := by decide +kernel
theorem D_prog_46_m9_0 : Dc prog_46_method_9_code 0 (.new 14) 3 3 := ⟨by decide +kernel, rfl⟩
theorem D_prog_46_m9_3 : Dc prog_46_method_9_code 3 (.dup) 1 4 := ⟨by decide +kernel, rfl⟩
theorem D_prog_46_m9_4 : Dc prog_46_method_9_code 4 (.aload_n 0) 1 5 := ⟨by decide +kernel, rfl⟩
theorem D_prog_46_m9_5 : Dc prog_46_method_9_code 5 (.getfield 28) 3 8 := ⟨by decide +kernel, rfl⟩
theorem D_prog_46_m9_8 : Dc prog_46_method_9_code 8 (.aload_n 0) 1 9 := ⟨by decide +kernel, rfl⟩
theorem D_prog_46_m9_9 : Dc prog_46_method_9_code 9 (.getfield 32) 3 12 := ⟨by decide +kernel, rfl⟩
theorem D_prog_46_m9_12 : Dc prog_46_method_9_code 12 (.aload_n 0) 1 13 := ⟨by decide +kernel, rfl⟩
theorem D_prog_46_m9_13 : Dc prog_46_method_9_code 13 (.getfield 35) 3 16 := ⟨by decide +kernel, rfl⟩
theorem D_prog_46_m9_16 : Dc prog_46_method_9_code 16 (.invokespecial 61) 3 19 := ⟨by decide +kernel, rfl⟩
theorem D_prog_46_m9_19 : Dc prog_46_method_9_code 19 (.astore_n 2) 1 20 := ⟨by decide +kernel, rfl⟩
theorem D_prog_46_m9_20 : Dc prog_46_method_9_code 20 (.iload_n 1) 1 21 := ⟨by decide +kernel, rfl⟩
theorem D_prog_46_m9_21 : Dc prog_46_method_9_code 21 (.ifCond .eq 8) 3 24 := ⟨by decide +kernel, rfl⟩
theorem D_prog_46_m9_24 : Dc prog_46_method_9_code 24 (.aload_n 2) 1 25 := ⟨by decide +kernel, rfl⟩
theorem D_prog_46_m9_25 : Dc prog_46_method_9_code 25 (.aload_n 0) 1 26 := ⟨by decide +kernel, rfl⟩
theorem D_prog_46_m9_26 : Dc prog_46_method_9_code 26 (.invokevirtual 64) 3 29 := ⟨by decide +kernel, rfl⟩
theorem D_prog_46_m9_29 : Dc prog_46_method_9_code 29 (.aload_n 2) 1 30 := ⟨by decide +kernel, rfl⟩
theorem D_prog_46_m9_30 : Dc prog_46_method_9_code 30 (.areturn) 1 31 := ⟨by decide +kernel, rfl⟩
set_option maxRecDepth 65536 in
set_option maxHeartbeats 40000000 in
theorem c_copy (l : Launch) (Z : State) (a0 : Array Value) (hw : ∀ d ∈ tables_1, d.before a0 Z = true) (k : Int32) (o : Addr) (d x y : Addr) (n g : Int32) (i : Value) (aE : Addr) (F : OH) (aN : Addr) (S_N : Sta Z Z.heap "com/example/dalles/dalles/schema/Fill" "NONE" "Lcom/example/dalles/dalles/schema/Fill;" (.ref aN)) (S_E : Sta Z Z.heap "java/util/Optional" "EMPTY" "Ljava/util/Optional;" (.ref aE)) :
    Met l Z (⟨"com/example/dalles/dalles/schema/PostgreSqlColumn", "copy", "(Z)Lcom/example/dalles/dalles/schema/PostgreSqlColumn;"⟩ : MethodName) prog_46_method_9_code 3 (some (.object "com/example/dalles/dalles/schema/PostgreSqlColumn")) ({ frames := 2, cells := 1, slots := 7, locals := 30 } : Room) [(.ref o), (.int k)] ((o, oI "com/example/dalles/dalles/schema/PostgreSqlColumn" sg_2 [(.ref d), (.ref aE), (.ref x), (.ref y), (.int n), i, (.int g)]) :: F) (Q_c_copy o d x y n g i aE F) := by
  refine Met.of_wp (Ls := #[.val (.ref o), .val (.int k), .unset]) pn_14 (fun m => by first | rfl | (simp [entryFrame, mkF, argsToLocals, Value.category]; done)) ?_
  show Wp none l Z "com/example/dalles/dalles/schema/PostgreSqlColumn" "copy" prog_46_method_9_code 3 (some (.object "com/example/dalles/dalles/schema/PostgreSqlColumn")) ({ frames := 2, cells := 1, slots := 7, locals := 30 } : Room) ((o, oI "com/example/dalles/dalles/schema/PostgreSqlColumn" sg_2 [(.ref d), (.ref aE), (.ref x), (.ref y), (.int n), i, (.int g)]) :: F) 0 0 0 #[.val (.ref o), .val (.int k), .unset] [] (Q_c_copy o d x y n g i aE F)
  refine wp_new sg_2 [(.null), (.null), (.null), (.null), (.int (0 : Int32)), (.null), (.int (0 : Int32))] D_prog_46_m9_0 (hw _ (List.mem_of_getElem? (i := 90) rfl)) (hw _ (List.mem_of_getElem? (i := 42) rfl)) (hw _ (List.mem_of_getElem? (i := 43) rfl)) (laid_sg_2 l Z a0 hw) (by decide) dfl_sg_2 (by decide) (by decide) ?_
  intro a1
  show Wp none l Z "com/example/dalles/dalles/schema/PostgreSqlColumn" "copy" prog_46_method_9_code 3 (some (.object "com/example/dalles/dalles/schema/PostgreSqlColumn")) ({ frames := 2, cells := 1, slots := 7, locals := 30 } : Room) ((a1, oI "com/example/dalles/dalles/schema/PostgreSqlColumn" sg_2 [(.null), (.null), (.null), (.null), (.int (0 : Int32)), (.null), (.int (0 : Int32))]) :: (o, oI "com/example/dalles/dalles/schema/PostgreSqlColumn" sg_2 [(.ref d), (.ref aE), (.ref x), (.ref y), (.int n), i, (.int g)]) :: F) 1 7 3 #[.val (.ref o), .val (.int k), .unset] [(.ref a1)] (Q_c_copy o d x y n g i aE F)
  refine wp_dup D_prog_46_m9_3 rfl ?_
  refine wp_aload_n D_prog_46_m9_4 rfl rfl ?_
  refine wp_getfield D_prog_46_m9_5 (hw _ (List.mem_of_getElem? (i := 60) rfl)) (fld_new (i := 1) (fi := 2) rfl rfl rfl) ?_
  refine wp_aload_n D_prog_46_m9_8 rfl rfl ?_
  refine wp_getfield D_prog_46_m9_9 (hw _ (List.mem_of_getElem? (i := 62) rfl)) (fld_new (i := 1) (fi := 3) rfl rfl rfl) ?_
  refine wp_aload_n D_prog_46_m9_12 rfl rfl ?_
  refine wp_getfield D_prog_46_m9_13 (hw _ (List.mem_of_getElem? (i := 64) rfl)) (fld_new (i := 1) (fi := 4) rfl rfl rfl) ?_
  refine wp_init (c_col l Z a0 hw a1 x y n aN aE ((o, oI "com/example/dalles/dalles/schema/PostgreSqlColumn" sg_2 [(.ref d), (.ref aE), (.ref x), (.ref y), (.int n), i, (.int g)]) :: F) S_N S_E) D_prog_46_m9_16 rfl (hw _ (List.mem_of_getElem? (i := 91) rfl)) (hw _ (List.mem_of_getElem? (i := 45) rfl)) (hw _ (List.mem_of_getElem? (i := 43) rfl)) (hw _ (List.mem_of_getElem? (i := 46) rfl)) (by decide) pd_6 rfl rfl rfl (Nat.le_of_ble_eq_true rfl) (Nat.le_of_ble_eq_true rfl) (Nat.le_of_ble_eq_true rfl) (Nat.le_of_ble_eq_true rfl) ?_
  rintro _ _ ⟨rfl, rfl⟩
  show Wp none l Z "com/example/dalles/dalles/schema/PostgreSqlColumn" "copy" prog_46_method_9_code 3 (some (.object "com/example/dalles/dalles/schema/PostgreSqlColumn")) ({ frames := 2, cells := 1, slots := 7, locals := 30 } : Room) ((a1, oI "com/example/dalles/dalles/schema/PostgreSqlColumn" sg_2 [(.ref aN), (.ref aE), (.ref x), (.ref y), (.int n), (.null), (.int (0 : Int32))]) :: (o, oI "com/example/dalles/dalles/schema/PostgreSqlColumn" sg_2 [(.ref d), (.ref aE), (.ref x), (.ref y), (.int n), i, (.int g)]) :: F) 1 7 19 #[.val (.ref o), .val (.int k), .unset] [(.ref a1)] (Q_c_copy o d x y n g i aE F)
  refine wp_astore_n #[.val (.ref o), .val (.int k), .val (.ref a1)] D_prog_46_m9_19 rfl rfl ?_
  refine wp_iload_n D_prog_46_m9_20 rfl ?_
  refine wp_if_eq D_prog_46_m9_21 (pc'' := 29) ⟨by decide, by decide⟩ (fun h2 => ?_) (fun h2 => ?_)
  · skip
    refine wp_aload_n D_prog_46_m9_29 rfl rfl ?_
    refine wp_areturn D_prog_46_m9_30 rfl rfl rfl rfl (by decide) (by decide) ?_
    exact ⟨_, _, _, rfl, rfl⟩
  · skip
    refine wp_aload_n D_prog_46_m9_24 rfl rfl ?_
    refine wp_aload_n D_prog_46_m9_25 rfl rfl ?_
    refine wp_virtual (c_inh l Z a0 hw a1 o aN x y n (0 : Int32) (.null) d x y n g i aE F) (exa_new (i := 0) rfl) D_prog_46_m9_26 (hw _ (List.mem_of_getElem? (i := 92) rfl)) (hw _ (List.mem_of_getElem? (i := 93) rfl)) (hw _ (List.mem_of_getElem? (i := 95) rfl)) (hw _ (List.mem_of_getElem? (i := 95) rfl)) (hw _ (List.mem_of_getElem? (i := 94) rfl)) (hw _ (List.mem_of_getElem? (i := 43) rfl)) (hw _ (List.mem_of_getElem? (i := 96) rfl)) (by decide) pd_7 rfl rfl rfl (Nat.le_of_ble_eq_true rfl) (Nat.le_of_ble_eq_true rfl) (Nat.le_of_ble_eq_true rfl) (Nat.le_of_ble_eq_true rfl) ?_
    rintro _ _ ⟨rfl, rfl⟩
    show Wp none l Z "com/example/dalles/dalles/schema/PostgreSqlColumn" "copy" prog_46_method_9_code 3 (some (.object "com/example/dalles/dalles/schema/PostgreSqlColumn")) ({ frames := 2, cells := 1, slots := 7, locals := 30 } : Room) ((a1, oI "com/example/dalles/dalles/schema/PostgreSqlColumn" sg_2 [(.ref (fd (0 : Int32) g aN d)), (.ref aE), (.ref x), (.ref y), (.int n), (.null), (.int (fh (0 : Int32) g))]) :: (o, oI "com/example/dalles/dalles/schema/PostgreSqlColumn" sg_2 [(.ref d), (.ref aE), (.ref x), (.ref y), (.int n), i, (.int g)]) :: F) 1 7 29 #[.val (.ref o), .val (.int k), .val (.ref a1)] [] (Q_c_copy o d x y n g i aE F)
    refine wp_aload_n D_prog_46_m9_29 rfl rfl ?_
    refine wp_areturn D_prog_46_m9_30 rfl rfl rfl rfl (by decide) (by decide) ?_
    exact ⟨_, _, _, rfl, rfl⟩
theorem pn_15 : plainFor (⟨"com/example/dalles/dalles/schema/PostgreSqlColumnIsIdentityPinLaw", "law", "(IIII)Z"⟩ : MethodName) = true := by first | exact plainFor_of_name (by first | (simp [plainName, overriddenIn]; done) | decide +kernel) | decide +kernel
def Q_law : Option Value → OH → Prop := fun v H' => v = some (.int 1)
theorem D_0 : Dc code 0 (.new 16) 3 3 := ⟨at_0, rfl⟩
theorem D_3 : Dc code 3 (.dup) 1 4 := ⟨at_3, rfl⟩
theorem D_4 : Dc code 4 (.iconst 2) 1 5 := ⟨at_4, rfl⟩
theorem D_5 : Dc code 5 (.newarray .char) 2 7 := ⟨at_5, rfl⟩
theorem D_7 : Dc code 7 (.dup) 1 8 := ⟨at_7, rfl⟩
theorem D_8 : Dc code 8 (.iconst 0) 1 9 := ⟨at_8, rfl⟩
theorem D_9 : Dc code 9 (.iload_n 0) 1 10 := ⟨at_9, rfl⟩
theorem D_10 : Dc code 10 (.sipush 255) 3 13 := ⟨at_10, rfl⟩
theorem D_13 : Dc code 13 (.iand) 1 14 := ⟨at_13, rfl⟩
theorem D_14 : Dc code 14 (.i2c) 1 15 := ⟨at_14, rfl⟩
theorem D_15 : Dc code 15 (.castore) 1 16 := ⟨at_15, rfl⟩
theorem D_16 : Dc code 16 (.dup) 1 17 := ⟨at_16, rfl⟩
theorem D_17 : Dc code 17 (.iconst 1) 1 18 := ⟨at_17, rfl⟩
theorem D_18 : Dc code 18 (.iload_n 0) 1 19 := ⟨at_18, rfl⟩
theorem D_19 : Dc code 19 (.bipush 8) 2 21 := ⟨at_19, rfl⟩
theorem D_21 : Dc code 21 (.iushr) 1 22 := ⟨at_21, rfl⟩
theorem D_22 : Dc code 22 (.sipush 255) 3 25 := ⟨at_22, rfl⟩
theorem D_25 : Dc code 25 (.iand) 1 26 := ⟨at_25, rfl⟩
theorem D_26 : Dc code 26 (.i2c) 1 27 := ⟨at_26, rfl⟩
theorem D_27 : Dc code 27 (.castore) 1 28 := ⟨at_27, rfl⟩
theorem D_28 : Dc code 28 (.invokespecial 18) 3 31 := ⟨at_28, rfl⟩
theorem D_31 : Dc code 31 (.astore 4) 2 33 := ⟨at_31, rfl⟩
theorem D_33 : Dc code 33 (.new 16) 3 36 := ⟨at_33, rfl⟩
theorem D_36 : Dc code 36 (.dup) 1 37 := ⟨at_36, rfl⟩
theorem D_37 : Dc code 37 (.iconst 1) 1 38 := ⟨at_37, rfl⟩
theorem D_38 : Dc code 38 (.newarray .char) 2 40 := ⟨at_38, rfl⟩
theorem D_40 : Dc code 40 (.dup) 1 41 := ⟨at_40, rfl⟩
theorem D_41 : Dc code 41 (.iconst 0) 1 42 := ⟨at_41, rfl⟩
theorem D_42 : Dc code 42 (.iload_n 1) 1 43 := ⟨at_42, rfl⟩
theorem D_43 : Dc code 43 (.sipush 255) 3 46 := ⟨at_43, rfl⟩
theorem D_46 : Dc code 46 (.iand) 1 47 := ⟨at_46, rfl⟩
theorem D_47 : Dc code 47 (.i2c) 1 48 := ⟨at_47, rfl⟩
theorem D_48 : Dc code 48 (.castore) 1 49 := ⟨at_48, rfl⟩
theorem D_49 : Dc code 49 (.invokespecial 18) 3 52 := ⟨at_49, rfl⟩
theorem D_52 : Dc code 52 (.astore 5) 2 54 := ⟨at_52, rfl⟩
theorem D_54 : Dc code 54 (.iload_n 3) 1 55 := ⟨at_54, rfl⟩
theorem D_55 : Dc code 55 (.iconst 1) 1 56 := ⟨at_55, rfl⟩
theorem D_56 : Dc code 56 (.iand) 1 57 := ⟨at_56, rfl⟩
theorem D_57 : Dc code 57 (.ifCond .eq 7) 3 60 := ⟨at_57, rfl⟩
theorem D_60 : Dc code 60 (.iconst 1) 1 61 := ⟨at_60, rfl⟩
theorem D_61 : Dc code 61 (.goto 4) 3 64 := ⟨at_61, rfl⟩
theorem D_64 : Dc code 64 (.iconst 0) 1 65 := ⟨at_64, rfl⟩
theorem D_65 : Dc code 65 (.istore 6) 2 67 := ⟨at_65, rfl⟩
theorem D_67 : Dc code 67 (.iload_n 3) 1 68 := ⟨at_67, rfl⟩
theorem D_68 : Dc code 68 (.iconst 4) 1 69 := ⟨at_68, rfl⟩
theorem D_69 : Dc code 69 (.iand) 1 70 := ⟨at_69, rfl⟩
theorem D_70 : Dc code 70 (.ifCond .eq 7) 3 73 := ⟨at_70, rfl⟩
theorem D_73 : Dc code 73 (.iconst 1) 1 74 := ⟨at_73, rfl⟩
theorem D_74 : Dc code 74 (.goto 4) 3 77 := ⟨at_74, rfl⟩
theorem D_77 : Dc code 77 (.iconst 0) 1 78 := ⟨at_77, rfl⟩
theorem D_78 : Dc code 78 (.istore 7) 2 80 := ⟨at_78, rfl⟩
theorem D_80 : Dc code 80 (.iload_n 3) 1 81 := ⟨at_80, rfl⟩
theorem D_81 : Dc code 81 (.bipush 8) 2 83 := ⟨at_81, rfl⟩
theorem D_83 : Dc code 83 (.iand) 1 84 := ⟨at_83, rfl⟩
theorem D_84 : Dc code 84 (.ifCond .eq 7) 3 87 := ⟨at_84, rfl⟩
theorem D_87 : Dc code 87 (.iconst 1) 1 88 := ⟨at_87, rfl⟩
theorem D_88 : Dc code 88 (.goto 4) 3 91 := ⟨at_88, rfl⟩
theorem D_91 : Dc code 91 (.iconst 0) 1 92 := ⟨at_91, rfl⟩
theorem D_92 : Dc code 92 (.istore 8) 2 94 := ⟨at_92, rfl⟩
theorem D_94 : Dc code 94 (.iload_n 3) 1 95 := ⟨at_94, rfl⟩
theorem D_95 : Dc code 95 (.bipush 32) 2 97 := ⟨at_95, rfl⟩
theorem D_97 : Dc code 97 (.iand) 1 98 := ⟨at_97, rfl⟩
theorem D_98 : Dc code 98 (.ifCond .eq 7) 3 101 := ⟨at_98, rfl⟩
theorem D_101 : Dc code 101 (.iconst 1) 1 102 := ⟨at_101, rfl⟩
theorem D_102 : Dc code 102 (.goto 4) 3 105 := ⟨at_102, rfl⟩
theorem D_105 : Dc code 105 (.iconst 0) 1 106 := ⟨at_105, rfl⟩
theorem D_106 : Dc code 106 (.istore 9) 2 108 := ⟨at_106, rfl⟩
theorem D_108 : Dc code 108 (.new 21) 3 111 := ⟨at_108, rfl⟩
theorem D_111 : Dc code 111 (.dup) 1 112 := ⟨at_111, rfl⟩
theorem D_112 : Dc code 112 (.aload 5) 2 114 := ⟨at_112, rfl⟩
theorem D_114 : Dc code 114 (.aload 4) 2 116 := ⟨at_114, rfl⟩
theorem D_116 : Dc code 116 (.invokespecial 23) 3 119 := ⟨at_116, rfl⟩
theorem D_119 : Dc code 119 (.astore 10) 2 121 := ⟨at_119, rfl⟩
theorem D_121 : Dc code 121 (.new 26) 3 124 := ⟨at_121, rfl⟩
theorem D_124 : Dc code 124 (.dup) 1 125 := ⟨at_124, rfl⟩
theorem D_125 : Dc code 125 (.aload 4) 2 127 := ⟨at_125, rfl⟩
theorem D_127 : Dc code 127 (.aload 5) 2 129 := ⟨at_127, rfl⟩
theorem D_129 : Dc code 129 (.iload_n 2) 1 130 := ⟨at_129, rfl⟩
theorem D_130 : Dc code 130 (.invokespecial 28) 3 133 := ⟨at_130, rfl⟩
theorem D_133 : Dc code 133 (.astore 11) 2 135 := ⟨at_133, rfl⟩
theorem D_135 : Dc code 135 (.aload 11) 2 137 := ⟨at_135, rfl⟩
theorem D_137 : Dc code 137 (.invokevirtual 31) 3 140 := ⟨at_137, rfl⟩
theorem D_140 : Dc code 140 (.ifCond .ne 7) 3 143 := ⟨at_140, rfl⟩
theorem D_143 : Dc code 143 (.iconst 1) 1 144 := ⟨at_143, rfl⟩
theorem D_144 : Dc code 144 (.goto 4) 3 147 := ⟨at_144, rfl⟩
theorem D_147 : Dc code 147 (.iconst 0) 1 148 := ⟨at_147, rfl⟩
theorem D_148 : Dc code 148 (.istore 12) 2 150 := ⟨at_148, rfl⟩
theorem D_150 : Dc code 150 (.iload 6) 2 152 := ⟨at_150, rfl⟩
theorem D_152 : Dc code 152 (.ifCond .eq 14) 3 155 := ⟨at_152, rfl⟩
theorem D_155 : Dc code 155 (.aload 11) 2 157 := ⟨at_155, rfl⟩
theorem D_157 : Dc code 157 (.iload_n 3) 1 158 := ⟨at_157, rfl⟩
theorem D_158 : Dc code 158 (.iconst 2) 1 159 := ⟨at_158, rfl⟩
theorem D_159 : Dc code 159 (.iand) 1 160 := ⟨at_159, rfl⟩
theorem D_160 : Dc code 160 (.invokestatic 35) 3 163 := ⟨at_160, rfl⟩
theorem D_163 : Dc code 163 (.invokevirtual 41) 3 166 := ⟨at_163, rfl⟩
theorem D_166 : Dc code 166 (.iload 7) 2 168 := ⟨at_166, rfl⟩
theorem D_168 : Dc code 168 (.ifCond .eq 10) 3 171 := ⟨at_168, rfl⟩
theorem D_171 : Dc code 171 (.aload 11) 2 173 := ⟨at_171, rfl⟩
theorem D_173 : Dc code 173 (.aload 10) 2 175 := ⟨at_173, rfl⟩
theorem D_175 : Dc code 175 (.invokevirtual 45) 3 178 := ⟨at_175, rfl⟩
theorem D_178 : Dc code 178 (.iload 8) 2 180 := ⟨at_178, rfl⟩
theorem D_180 : Dc code 180 (.ifCond .eq 15) 3 183 := ⟨at_180, rfl⟩
theorem D_183 : Dc code 183 (.aload 11) 2 185 := ⟨at_183, rfl⟩
theorem D_185 : Dc code 185 (.iload_n 3) 1 186 := ⟨at_185, rfl⟩
theorem D_186 : Dc code 186 (.bipush 16) 2 188 := ⟨at_186, rfl⟩
theorem D_188 : Dc code 188 (.iand) 1 189 := ⟨at_188, rfl⟩
theorem D_189 : Dc code 189 (.invokestatic 35) 3 192 := ⟨at_189, rfl⟩
theorem D_192 : Dc code 192 (.invokevirtual 41) 3 195 := ⟨at_192, rfl⟩
theorem D_195 : Dc code 195 (.iload 12) 2 197 := ⟨at_195, rfl⟩
theorem D_197 : Dc code 197 (.ifCond .eq 17) 3 200 := ⟨at_197, rfl⟩
theorem D_200 : Dc code 200 (.aload 11) 2 202 := ⟨at_200, rfl⟩
theorem D_202 : Dc code 202 (.invokevirtual 31) 3 205 := ⟨at_202, rfl⟩
theorem D_205 : Dc code 205 (.iload 7) 2 207 := ⟨at_205, rfl⟩
theorem D_207 : Dc code 207 (.if_icmp .ne 7) 3 210 := ⟨at_207, rfl⟩
theorem D_210 : Dc code 210 (.iconst 1) 1 211 := ⟨at_210, rfl⟩
theorem D_211 : Dc code 211 (.goto 4) 3 214 := ⟨at_211, rfl⟩
theorem D_214 : Dc code 214 (.iconst 0) 1 215 := ⟨at_214, rfl⟩
theorem D_215 : Dc code 215 (.istore 12) 2 217 := ⟨at_215, rfl⟩
theorem D_217 : Dc code 217 (.aload 11) 2 219 := ⟨at_217, rfl⟩
theorem D_219 : Dc code 219 (.iload 9) 2 221 := ⟨at_219, rfl⟩
theorem D_221 : Dc code 221 (.invokevirtual 49) 3 224 := ⟨at_221, rfl⟩
theorem D_224 : Dc code 224 (.astore 13) 2 226 := ⟨at_224, rfl⟩
theorem D_226 : Dc code 226 (.iload 12) 2 228 := ⟨at_226, rfl⟩
theorem D_228 : Dc code 228 (.ifCond .eq 15) 3 231 := ⟨at_228, rfl⟩
theorem D_231 : Dc code 231 (.aload 13) 2 233 := ⟨at_231, rfl⟩
theorem D_233 : Dc code 233 (.invokevirtual 31) 3 236 := ⟨at_233, rfl⟩
theorem D_236 : Dc code 236 (.ifCond .ne 7) 3 239 := ⟨at_236, rfl⟩
theorem D_239 : Dc code 239 (.iconst 1) 1 240 := ⟨at_239, rfl⟩
theorem D_240 : Dc code 240 (.goto 4) 3 243 := ⟨at_240, rfl⟩
theorem D_243 : Dc code 243 (.iconst 0) 1 244 := ⟨at_243, rfl⟩
theorem D_244 : Dc code 244 (.istore 12) 2 246 := ⟨at_244, rfl⟩
theorem D_246 : Dc code 246 (.iload 12) 2 248 := ⟨at_246, rfl⟩
theorem D_248 : Dc code 248 (.ifCond .eq 17) 3 251 := ⟨at_248, rfl⟩
theorem D_251 : Dc code 251 (.aload 11) 2 253 := ⟨at_251, rfl⟩
theorem D_253 : Dc code 253 (.invokevirtual 31) 3 256 := ⟨at_253, rfl⟩
theorem D_256 : Dc code 256 (.iload 7) 2 258 := ⟨at_256, rfl⟩
theorem D_258 : Dc code 258 (.if_icmp .ne 7) 3 261 := ⟨at_258, rfl⟩
theorem D_261 : Dc code 261 (.iconst 1) 1 262 := ⟨at_261, rfl⟩
theorem D_262 : Dc code 262 (.goto 4) 3 265 := ⟨at_262, rfl⟩
theorem D_265 : Dc code 265 (.iconst 0) 1 266 := ⟨at_265, rfl⟩
theorem D_266 : Dc code 266 (.istore 12) 2 268 := ⟨at_266, rfl⟩
theorem D_268 : Dc code 268 (.iload 12) 2 270 := ⟨at_268, rfl⟩
theorem D_270 : Dc code 270 (.ireturn) 1 271 := ⟨at_270, rfl⟩
set_option maxRecDepth 65536 in
set_option maxHeartbeats 40000000 in
theorem law_wp (l : Launch) (Z : State) (a0 : Array Value) (hw : ∀ d ∈ tables_1, d.before a0 Z = true) (a : Int32) (b : Int32) (c : Int32) (flags : Int32) (cp : Int32) (aN aR aE : Addr) (S_cp : Sta Z Z.heap "java/lang/String" "COMPACT_STRINGS" "Z" (.int cp)) (hcp : ¬ cp = 0) (S_N : Sta Z Z.heap "com/example/dalles/dalles/schema/Fill" "NONE" "Lcom/example/dalles/dalles/schema/Fill;" (.ref aN)) (S_R : Sta Z Z.heap "com/example/dalles/dalles/schema/Fill" "RANDOM_UUID" "Lcom/example/dalles/dalles/schema/Fill;" (.ref aR)) (S_E : Sta Z Z.heap "java/util/Optional" "EMPTY" "Ljava/util/Optional;" (.ref aE)) : Wp none l Z "com/example/dalles/dalles/schema/PostgreSqlColumnIsIdentityPinLaw" "law" code maxLocals ret room_1 [] 0 0 0 #[.val (.int a), .val (.int b), .val (.int c), .val (.int flags), .unset, .unset, .unset, .unset, .unset, .unset, .unset, .unset, .unset, .unset] [] Q_law := by
  refine wp_new sgStr [(.null), (.int (0 : Int32))] D_0 (hw _ (List.mem_of_getElem? (i := 0) rfl)) (hw _ (List.mem_of_getElem? (i := 1) rfl)) (hw _ (List.mem_of_getElem? (i := 2) rfl)) (laid_sgStr l Z a0 hw) (by decide) dfl_sgStr (by decide) (by decide) ?_
  intro a1
  show Wp none l Z "com/example/dalles/dalles/schema/PostgreSqlColumnIsIdentityPinLaw" "law" code maxLocals ret room_1 [(a1, oI "java/lang/String" sgStr [(.null), (.int (0 : Int32))])] 1 4 3 #[.val (.int a), .val (.int b), .val (.int c), .val (.int flags), .unset, .unset, .unset, .unset, .unset, .unset, .unset, .unset, .unset, .unset] [(.ref a1)] Q_law
  refine wp_dup D_3 rfl ?_
  refine wp_iconst 2 D_4 (by decide) ?_
  refine wp_newarrayI (n := (2 : Int32)) (2) 2 D_5 rfl rfl rfl (hw _ (List.mem_of_getElem? (i := 3) rfl)) (by decide) (by decide) (by decide) (by decide) (by decide) (by decide) ?_
  intro a2
  show Wp none l Z "com/example/dalles/dalles/schema/PostgreSqlColumnIsIdentityPinLaw" "law" code maxLocals ret room_1 [(a2, oA .char [(0 : Int32), (0 : Int32)]), (a1, oI "java/lang/String" sgStr [(.null), (.int (0 : Int32))])] 2 6 7 #[.val (.int a), .val (.int b), .val (.int c), .val (.int flags), .unset, .unset, .unset, .unset, .unset, .unset, .unset, .unset, .unset, .unset] [(.ref a2), (.ref a1), (.ref a1)] Q_law
  refine wp_dup D_7 rfl ?_
  refine wp_iconst 0 D_8 (by decide) ?_
  refine wp_iload_n D_9 rfl ?_
  refine wp_sipush 255 D_10 (by decide) ?_
  refine wp_iand D_13 ?_
  refine wp_i2c D_14 ?_
  refine wp_castore (i := 0) (0) D_15 rfl (by decide) (by decide) (by first | decide | exact Nat.le_of_ble_eq_true rfl | simp) ?_
  show Wp none l Z "com/example/dalles/dalles/schema/PostgreSqlColumnIsIdentityPinLaw" "law" code maxLocals ret room_1 [(a2, oA .char [(nar .char (a &&& (255 : Int32)).toUInt32.toUInt16.toUInt32.toInt32), (0 : Int32)]), (a1, oI "java/lang/String" sgStr [(.null), (.int (0 : Int32))])] 2 6 16 #[.val (.int a), .val (.int b), .val (.int c), .val (.int flags), .unset, .unset, .unset, .unset, .unset, .unset, .unset, .unset, .unset, .unset] [(.ref a2), (.ref a1), (.ref a1)] Q_law
  refine wp_dup D_16 rfl ?_
  refine wp_iconst 1 D_17 (by decide) ?_
  refine wp_iload_n D_18 rfl ?_
  refine wp_bipush 8 D_19 (by decide) ?_
  refine wp_iushr D_21 ?_
  refine wp_sipush 255 D_22 (by decide) ?_
  refine wp_iand D_25 ?_
  refine wp_i2c D_26 ?_
  refine wp_castore (i := 0) (1) D_27 rfl (by decide) (by decide) (by first | decide | exact Nat.le_of_ble_eq_true rfl | simp) ?_
  show Wp none l Z "com/example/dalles/dalles/schema/PostgreSqlColumnIsIdentityPinLaw" "law" code maxLocals ret room_1 [(a2, oA .char [(nar .char (a &&& (255 : Int32)).toUInt32.toUInt16.toUInt32.toInt32), (nar .char ((XT.ushr a (8 : Int32)) &&& (255 : Int32)).toUInt32.toUInt16.toUInt32.toInt32)]), (a1, oI "java/lang/String" sgStr [(.null), (.int (0 : Int32))])] 2 6 28 #[.val (.int a), .val (.int b), .val (.int c), .val (.int flags), .unset, .unset, .unset, .unset, .unset, .unset, .unset, .unset, .unset, .unset] [(.ref a2), (.ref a1), (.ref a1)] Q_law
  refine Wp.pick [1, 0] (by decide) ?_
  show Wp none l Z "com/example/dalles/dalles/schema/PostgreSqlColumnIsIdentityPinLaw" "law" code maxLocals ret room_1 [(a1, oI "java/lang/String" sgStr [(.null), (.int (0 : Int32))]), (a2, oA .char [(nar .char (a &&& (255 : Int32)).toUInt32.toUInt16.toUInt32.toInt32), (nar .char ((XT.ushr a (8 : Int32)) &&& (255 : Int32)).toUInt32.toUInt16.toUInt32.toInt32)])] 2 6 28 #[.val (.int a), .val (.int b), .val (.int c), .val (.int flags), .unset, .unset, .unset, .unset, .unset, .unset, .unset, .unset, .unset, .unset] [(.ref a2), (.ref a1), (.ref a1)] Q_law
  refine wp_init (c_si1_2 l Z a0 hw a1 a2 cp (nar .char (a &&& (255 : Int32)).toUInt32.toUInt16.toUInt32.toInt32) (nar .char ((XT.ushr a (8 : Int32)) &&& (255 : Int32)).toUInt32.toUInt16.toUInt32.toInt32) [] S_cp hcp (own_ch _) (own_ch _)) D_28 rfl (hw _ (List.mem_of_getElem? (i := 4) rfl)) (hw _ (List.mem_of_getElem? (i := 5) rfl)) (hw _ (List.mem_of_getElem? (i := 2) rfl)) (hw _ (List.mem_of_getElem? (i := 6) rfl)) (by decide) pd_9 rfl rfl rfl (Nat.le_of_ble_eq_true rfl) (Nat.le_of_ble_eq_true rfl) (Nat.le_of_ble_eq_true rfl) (Nat.le_of_ble_eq_true rfl) ?_
  rintro _ _ ⟨rfl, b3, rfl⟩
  show Wp none l Z "com/example/dalles/dalles/schema/PostgreSqlColumnIsIdentityPinLaw" "law" code maxLocals ret room_1 [(b3, oA .byte [(nar .byte (nar .char (a &&& (255 : Int32)).toUInt32.toUInt16.toUInt32.toInt32).toInt8.toInt32), (nar .byte (nar .char ((XT.ushr a (8 : Int32)) &&& (255 : Int32)).toUInt32.toUInt16.toUInt32.toInt32).toInt8.toInt32)]), (a1, oI "java/lang/String" sgStr [(.ref b3), (.int (0 : Int32))]), (a2, oA .char [(nar .char (a &&& (255 : Int32)).toUInt32.toUInt16.toUInt32.toInt32), (nar .char ((XT.ushr a (8 : Int32)) &&& (255 : Int32)).toUInt32.toUInt16.toUInt32.toInt32)])] 3 8 31 #[.val (.int a), .val (.int b), .val (.int c), .val (.int flags), .unset, .unset, .unset, .unset, .unset, .unset, .unset, .unset, .unset, .unset] [(.ref a1)] Q_law
  refine wp_astore #[.val (.int a), .val (.int b), .val (.int c), .val (.int flags), .val (.ref a1), .unset, .unset, .unset, .unset, .unset, .unset, .unset, .unset, .unset] D_31 rfl rfl ?_
  refine wp_new sgStr [(.null), (.int (0 : Int32))] D_33 (hw _ (List.mem_of_getElem? (i := 0) rfl)) (hw _ (List.mem_of_getElem? (i := 1) rfl)) (hw _ (List.mem_of_getElem? (i := 2) rfl)) (laid_sgStr l Z a0 hw) (by decide) dfl_sgStr (by decide) (by decide) ?_
  intro a4
  show Wp none l Z "com/example/dalles/dalles/schema/PostgreSqlColumnIsIdentityPinLaw" "law" code maxLocals ret room_1 [(a4, oI "java/lang/String" sgStr [(.null), (.int (0 : Int32))]), (b3, oA .byte [(nar .byte (nar .char (a &&& (255 : Int32)).toUInt32.toUInt16.toUInt32.toInt32).toInt8.toInt32), (nar .byte (nar .char ((XT.ushr a (8 : Int32)) &&& (255 : Int32)).toUInt32.toUInt16.toUInt32.toInt32).toInt8.toInt32)]), (a1, oI "java/lang/String" sgStr [(.ref b3), (.int (0 : Int32))]), (a2, oA .char [(nar .char (a &&& (255 : Int32)).toUInt32.toUInt16.toUInt32.toInt32), (nar .char ((XT.ushr a (8 : Int32)) &&& (255 : Int32)).toUInt32.toUInt16.toUInt32.toInt32)])] 4 12 36 #[.val (.int a), .val (.int b), .val (.int c), .val (.int flags), .val (.ref a1), .unset, .unset, .unset, .unset, .unset, .unset, .unset, .unset, .unset] [(.ref a4)] Q_law
  refine wp_dup D_36 rfl ?_
  refine wp_iconst 1 D_37 (by decide) ?_
  refine wp_newarrayI (n := (1 : Int32)) (1) 1 D_38 rfl rfl rfl (hw _ (List.mem_of_getElem? (i := 3) rfl)) (by decide) (by decide) (by decide) (by decide) (by decide) (by decide) ?_
  intro a5
  show Wp none l Z "com/example/dalles/dalles/schema/PostgreSqlColumnIsIdentityPinLaw" "law" code maxLocals ret room_1 [(a5, oA .char [(0 : Int32)]), (a4, oI "java/lang/String" sgStr [(.null), (.int (0 : Int32))]), (b3, oA .byte [(nar .byte (nar .char (a &&& (255 : Int32)).toUInt32.toUInt16.toUInt32.toInt32).toInt8.toInt32), (nar .byte (nar .char ((XT.ushr a (8 : Int32)) &&& (255 : Int32)).toUInt32.toUInt16.toUInt32.toInt32).toInt8.toInt32)]), (a1, oI "java/lang/String" sgStr [(.ref b3), (.int (0 : Int32))]), (a2, oA .char [(nar .char (a &&& (255 : Int32)).toUInt32.toUInt16.toUInt32.toInt32), (nar .char ((XT.ushr a (8 : Int32)) &&& (255 : Int32)).toUInt32.toUInt16.toUInt32.toInt32)])] 5 13 40 #[.val (.int a), .val (.int b), .val (.int c), .val (.int flags), .val (.ref a1), .unset, .unset, .unset, .unset, .unset, .unset, .unset, .unset, .unset] [(.ref a5), (.ref a4), (.ref a4)] Q_law
  refine wp_dup D_40 rfl ?_
  refine wp_iconst 0 D_41 (by decide) ?_
  refine wp_iload_n D_42 rfl ?_
  refine wp_sipush 255 D_43 (by decide) ?_
  refine wp_iand D_46 ?_
  refine wp_i2c D_47 ?_
  refine wp_castore (i := 0) (0) D_48 rfl (by decide) (by decide) (by first | decide | exact Nat.le_of_ble_eq_true rfl | simp) ?_
  show Wp none l Z "com/example/dalles/dalles/schema/PostgreSqlColumnIsIdentityPinLaw" "law" code maxLocals ret room_1 [(a5, oA .char [(nar .char (b &&& (255 : Int32)).toUInt32.toUInt16.toUInt32.toInt32)]), (a4, oI "java/lang/String" sgStr [(.null), (.int (0 : Int32))]), (b3, oA .byte [(nar .byte (nar .char (a &&& (255 : Int32)).toUInt32.toUInt16.toUInt32.toInt32).toInt8.toInt32), (nar .byte (nar .char ((XT.ushr a (8 : Int32)) &&& (255 : Int32)).toUInt32.toUInt16.toUInt32.toInt32).toInt8.toInt32)]), (a1, oI "java/lang/String" sgStr [(.ref b3), (.int (0 : Int32))]), (a2, oA .char [(nar .char (a &&& (255 : Int32)).toUInt32.toUInt16.toUInt32.toInt32), (nar .char ((XT.ushr a (8 : Int32)) &&& (255 : Int32)).toUInt32.toUInt16.toUInt32.toInt32)])] 5 13 49 #[.val (.int a), .val (.int b), .val (.int c), .val (.int flags), .val (.ref a1), .unset, .unset, .unset, .unset, .unset, .unset, .unset, .unset, .unset] [(.ref a5), (.ref a4), (.ref a4)] Q_law
  refine Wp.pick [1, 0, 2, 3, 4] (by decide) ?_
  show Wp none l Z "com/example/dalles/dalles/schema/PostgreSqlColumnIsIdentityPinLaw" "law" code maxLocals ret room_1 [(a4, oI "java/lang/String" sgStr [(.null), (.int (0 : Int32))]), (a5, oA .char [(nar .char (b &&& (255 : Int32)).toUInt32.toUInt16.toUInt32.toInt32)]), (b3, oA .byte [(nar .byte (nar .char (a &&& (255 : Int32)).toUInt32.toUInt16.toUInt32.toInt32).toInt8.toInt32), (nar .byte (nar .char ((XT.ushr a (8 : Int32)) &&& (255 : Int32)).toUInt32.toUInt16.toUInt32.toInt32).toInt8.toInt32)]), (a1, oI "java/lang/String" sgStr [(.ref b3), (.int (0 : Int32))]), (a2, oA .char [(nar .char (a &&& (255 : Int32)).toUInt32.toUInt16.toUInt32.toInt32), (nar .char ((XT.ushr a (8 : Int32)) &&& (255 : Int32)).toUInt32.toUInt16.toUInt32.toInt32)])] 5 13 49 #[.val (.int a), .val (.int b), .val (.int c), .val (.int flags), .val (.ref a1), .unset, .unset, .unset, .unset, .unset, .unset, .unset, .unset, .unset] [(.ref a5), (.ref a4), (.ref a4)] Q_law
  refine wp_init (c_si1_1 l Z a0 hw a4 a5 cp (nar .char (b &&& (255 : Int32)).toUInt32.toUInt16.toUInt32.toInt32) [(b3, oA .byte [(nar .byte (nar .char (a &&& (255 : Int32)).toUInt32.toUInt16.toUInt32.toInt32).toInt8.toInt32), (nar .byte (nar .char ((XT.ushr a (8 : Int32)) &&& (255 : Int32)).toUInt32.toUInt16.toUInt32.toInt32).toInt8.toInt32)]), (a1, oI "java/lang/String" sgStr [(.ref b3), (.int (0 : Int32))]), (a2, oA .char [(nar .char (a &&& (255 : Int32)).toUInt32.toUInt16.toUInt32.toInt32), (nar .char ((XT.ushr a (8 : Int32)) &&& (255 : Int32)).toUInt32.toUInt16.toUInt32.toInt32)])] S_cp hcp (own_ch _)) D_49 rfl (hw _ (List.mem_of_getElem? (i := 4) rfl)) (hw _ (List.mem_of_getElem? (i := 5) rfl)) (hw _ (List.mem_of_getElem? (i := 2) rfl)) (hw _ (List.mem_of_getElem? (i := 6) rfl)) (by decide) pd_9 rfl rfl rfl (Nat.le_of_ble_eq_true rfl) (Nat.le_of_ble_eq_true rfl) (Nat.le_of_ble_eq_true rfl) (Nat.le_of_ble_eq_true rfl) ?_
  rintro _ _ ⟨rfl, b6, rfl⟩
  show Wp none l Z "com/example/dalles/dalles/schema/PostgreSqlColumnIsIdentityPinLaw" "law" code maxLocals ret room_1 [(b6, oA .byte [(nar .byte (nar .char (b &&& (255 : Int32)).toUInt32.toUInt16.toUInt32.toInt32).toInt8.toInt32)]), (a4, oI "java/lang/String" sgStr [(.ref b6), (.int (0 : Int32))]), (a5, oA .char [(nar .char (b &&& (255 : Int32)).toUInt32.toUInt16.toUInt32.toInt32)]), (b3, oA .byte [(nar .byte (nar .char (a &&& (255 : Int32)).toUInt32.toUInt16.toUInt32.toInt32).toInt8.toInt32), (nar .byte (nar .char ((XT.ushr a (8 : Int32)) &&& (255 : Int32)).toUInt32.toUInt16.toUInt32.toInt32).toInt8.toInt32)]), (a1, oI "java/lang/String" sgStr [(.ref b3), (.int (0 : Int32))]), (a2, oA .char [(nar .char (a &&& (255 : Int32)).toUInt32.toUInt16.toUInt32.toInt32), (nar .char ((XT.ushr a (8 : Int32)) &&& (255 : Int32)).toUInt32.toUInt16.toUInt32.toInt32)])] 6 14 52 #[.val (.int a), .val (.int b), .val (.int c), .val (.int flags), .val (.ref a1), .unset, .unset, .unset, .unset, .unset, .unset, .unset, .unset, .unset] [(.ref a4)] Q_law
  refine wp_astore #[.val (.int a), .val (.int b), .val (.int c), .val (.int flags), .val (.ref a1), .val (.ref a4), .unset, .unset, .unset, .unset, .unset, .unset, .unset, .unset] D_52 rfl rfl ?_
  refine wp_iload_n D_54 rfl ?_
  refine wp_iconst 1 D_55 (by decide) ?_
  refine wp_iand D_56 ?_
  have J10 : ∀ (b8 : Int32), (((flags &&& (1 : Int32)) = (0 : Int32) ∧ b8 = (0 : Int32)) ∨ (¬ (flags &&& (1 : Int32)) = (0 : Int32) ∧ b8 = (1 : Int32))) → Wp none l Z "com/example/dalles/dalles/schema/PostgreSqlColumnIsIdentityPinLaw" "law" code maxLocals ret room_1 [(b6, oA .byte [(nar .byte (nar .char (b &&& (255 : Int32)).toUInt32.toUInt16.toUInt32.toInt32).toInt8.toInt32)]), (a4, oI "java/lang/String" sgStr [(.ref b6), (.int (0 : Int32))]), (a5, oA .char [(nar .char (b &&& (255 : Int32)).toUInt32.toUInt16.toUInt32.toInt32)]), (b3, oA .byte [(nar .byte (nar .char (a &&& (255 : Int32)).toUInt32.toUInt16.toUInt32.toInt32).toInt8.toInt32), (nar .byte (nar .char ((XT.ushr a (8 : Int32)) &&& (255 : Int32)).toUInt32.toUInt16.toUInt32.toInt32).toInt8.toInt32)]), (a1, oI "java/lang/String" sgStr [(.ref b3), (.int (0 : Int32))]), (a2, oA .char [(nar .char (a &&& (255 : Int32)).toUInt32.toUInt16.toUInt32.toInt32), (nar .char ((XT.ushr a (8 : Int32)) &&& (255 : Int32)).toUInt32.toUInt16.toUInt32.toInt32)])] 6 14 65 #[.val (.int a), .val (.int b), .val (.int c), .val (.int flags), .val (.ref a1), .val (.ref a4), .unset, .unset, .unset, .unset, .unset, .unset, .unset, .unset] [(.int b8)] Q_law := by
    intro b8 hj9
    refine wp_istore #[.val (.int a), .val (.int b), .val (.int c), .val (.int flags), .val (.ref a1), .val (.ref a4), .val (.int b8), .unset, .unset, .unset, .unset, .unset, .unset, .unset] D_65 rfl ?_
    refine wp_iload_n D_67 rfl ?_
    refine wp_iconst 4 D_68 (by decide) ?_
    refine wp_iand D_69 ?_
    have J14 : ∀ (b12 : Int32), (((flags &&& (4 : Int32)) = (0 : Int32) ∧ b12 = (0 : Int32)) ∨ (¬ (flags &&& (4 : Int32)) = (0 : Int32) ∧ b12 = (1 : Int32))) → Wp none l Z "com/example/dalles/dalles/schema/PostgreSqlColumnIsIdentityPinLaw" "law" code maxLocals ret room_1 [(b6, oA .byte [(nar .byte (nar .char (b &&& (255 : Int32)).toUInt32.toUInt16.toUInt32.toInt32).toInt8.toInt32)]), (a4, oI "java/lang/String" sgStr [(.ref b6), (.int (0 : Int32))]), (a5, oA .char [(nar .char (b &&& (255 : Int32)).toUInt32.toUInt16.toUInt32.toInt32)]), (b3, oA .byte [(nar .byte (nar .char (a &&& (255 : Int32)).toUInt32.toUInt16.toUInt32.toInt32).toInt8.toInt32), (nar .byte (nar .char ((XT.ushr a (8 : Int32)) &&& (255 : Int32)).toUInt32.toUInt16.toUInt32.toInt32).toInt8.toInt32)]), (a1, oI "java/lang/String" sgStr [(.ref b3), (.int (0 : Int32))]), (a2, oA .char [(nar .char (a &&& (255 : Int32)).toUInt32.toUInt16.toUInt32.toInt32), (nar .char ((XT.ushr a (8 : Int32)) &&& (255 : Int32)).toUInt32.toUInt16.toUInt32.toInt32)])] 6 14 78 #[.val (.int a), .val (.int b), .val (.int c), .val (.int flags), .val (.ref a1), .val (.ref a4), .val (.int b8), .unset, .unset, .unset, .unset, .unset, .unset, .unset] [(.int b12)] Q_law := by
      intro b12 hj13
      refine wp_istore #[.val (.int a), .val (.int b), .val (.int c), .val (.int flags), .val (.ref a1), .val (.ref a4), .val (.int b8), .val (.int b12), .unset, .unset, .unset, .unset, .unset, .unset] D_78 rfl ?_
      refine wp_iload_n D_80 rfl ?_
      refine wp_bipush 8 D_81 (by decide) ?_
      refine wp_iand D_83 ?_
      have J18 : ∀ (b16 : Int32), (((flags &&& (8 : Int32)) = (0 : Int32) ∧ b16 = (0 : Int32)) ∨ (¬ (flags &&& (8 : Int32)) = (0 : Int32) ∧ b16 = (1 : Int32))) → Wp none l Z "com/example/dalles/dalles/schema/PostgreSqlColumnIsIdentityPinLaw" "law" code maxLocals ret room_1 [(b6, oA .byte [(nar .byte (nar .char (b &&& (255 : Int32)).toUInt32.toUInt16.toUInt32.toInt32).toInt8.toInt32)]), (a4, oI "java/lang/String" sgStr [(.ref b6), (.int (0 : Int32))]), (a5, oA .char [(nar .char (b &&& (255 : Int32)).toUInt32.toUInt16.toUInt32.toInt32)]), (b3, oA .byte [(nar .byte (nar .char (a &&& (255 : Int32)).toUInt32.toUInt16.toUInt32.toInt32).toInt8.toInt32), (nar .byte (nar .char ((XT.ushr a (8 : Int32)) &&& (255 : Int32)).toUInt32.toUInt16.toUInt32.toInt32).toInt8.toInt32)]), (a1, oI "java/lang/String" sgStr [(.ref b3), (.int (0 : Int32))]), (a2, oA .char [(nar .char (a &&& (255 : Int32)).toUInt32.toUInt16.toUInt32.toInt32), (nar .char ((XT.ushr a (8 : Int32)) &&& (255 : Int32)).toUInt32.toUInt16.toUInt32.toInt32)])] 6 14 92 #[.val (.int a), .val (.int b), .val (.int c), .val (.int flags), .val (.ref a1), .val (.ref a4), .val (.int b8), .val (.int b12), .unset, .unset, .unset, .unset, .unset, .unset] [(.int b16)] Q_law := by
        intro b16 hj17
        refine wp_istore #[.val (.int a), .val (.int b), .val (.int c), .val (.int flags), .val (.ref a1), .val (.ref a4), .val (.int b8), .val (.int b12), .val (.int b16), .unset, .unset, .unset, .unset, .unset] D_92 rfl ?_
        refine wp_iload_n D_94 rfl ?_
        refine wp_bipush 32 D_95 (by decide) ?_
        refine wp_iand D_97 ?_
        have J22 : ∀ (b20 : Int32), (((flags &&& (32 : Int32)) = (0 : Int32) ∧ b20 = (0 : Int32)) ∨ (¬ (flags &&& (32 : Int32)) = (0 : Int32) ∧ b20 = (1 : Int32))) → Wp none l Z "com/example/dalles/dalles/schema/PostgreSqlColumnIsIdentityPinLaw" "law" code maxLocals ret room_1 [(b6, oA .byte [(nar .byte (nar .char (b &&& (255 : Int32)).toUInt32.toUInt16.toUInt32.toInt32).toInt8.toInt32)]), (a4, oI "java/lang/String" sgStr [(.ref b6), (.int (0 : Int32))]), (a5, oA .char [(nar .char (b &&& (255 : Int32)).toUInt32.toUInt16.toUInt32.toInt32)]), (b3, oA .byte [(nar .byte (nar .char (a &&& (255 : Int32)).toUInt32.toUInt16.toUInt32.toInt32).toInt8.toInt32), (nar .byte (nar .char ((XT.ushr a (8 : Int32)) &&& (255 : Int32)).toUInt32.toUInt16.toUInt32.toInt32).toInt8.toInt32)]), (a1, oI "java/lang/String" sgStr [(.ref b3), (.int (0 : Int32))]), (a2, oA .char [(nar .char (a &&& (255 : Int32)).toUInt32.toUInt16.toUInt32.toInt32), (nar .char ((XT.ushr a (8 : Int32)) &&& (255 : Int32)).toUInt32.toUInt16.toUInt32.toInt32)])] 6 14 106 #[.val (.int a), .val (.int b), .val (.int c), .val (.int flags), .val (.ref a1), .val (.ref a4), .val (.int b8), .val (.int b12), .val (.int b16), .unset, .unset, .unset, .unset, .unset] [(.int b20)] Q_law := by
          intro b20 hj21
          refine wp_istore #[.val (.int a), .val (.int b), .val (.int c), .val (.int flags), .val (.ref a1), .val (.ref a4), .val (.int b8), .val (.int b12), .val (.int b16), .val (.int b20), .unset, .unset, .unset, .unset] D_106 rfl ?_
          refine wp_new sg_1 [(.null), (.null)] D_108 (hw _ (List.mem_of_getElem? (i := 30) rfl)) (hw _ (List.mem_of_getElem? (i := 31) rfl)) (hw _ (List.mem_of_getElem? (i := 32) rfl)) (laid_sg_1 l Z a0 hw) (by decide) dfl_sg_1 (by decide) (by decide) ?_
          intro a23
          show Wp none l Z "com/example/dalles/dalles/schema/PostgreSqlColumnIsIdentityPinLaw" "law" code maxLocals ret room_1 [(a23, oI "com/example/dalles/dalles/schema/Sequence" sg_1 [(.null), (.null)]), (b6, oA .byte [(nar .byte (nar .char (b &&& (255 : Int32)).toUInt32.toUInt16.toUInt32.toInt32).toInt8.toInt32)]), (a4, oI "java/lang/String" sgStr [(.ref b6), (.int (0 : Int32))]), (a5, oA .char [(nar .char (b &&& (255 : Int32)).toUInt32.toUInt16.toUInt32.toInt32)]), (b3, oA .byte [(nar .byte (nar .char (a &&& (255 : Int32)).toUInt32.toUInt16.toUInt32.toInt32).toInt8.toInt32), (nar .byte (nar .char ((XT.ushr a (8 : Int32)) &&& (255 : Int32)).toUInt32.toUInt16.toUInt32.toInt32).toInt8.toInt32)]), (a1, oI "java/lang/String" sgStr [(.ref b3), (.int (0 : Int32))]), (a2, oA .char [(nar .char (a &&& (255 : Int32)).toUInt32.toUInt16.toUInt32.toInt32), (nar .char ((XT.ushr a (8 : Int32)) &&& (255 : Int32)).toUInt32.toUInt16.toUInt32.toInt32)])] 7 16 111 #[.val (.int a), .val (.int b), .val (.int c), .val (.int flags), .val (.ref a1), .val (.ref a4), .val (.int b8), .val (.int b12), .val (.int b16), .val (.int b20), .unset, .unset, .unset, .unset] [(.ref a23)] Q_law
          refine wp_dup D_111 rfl ?_
          refine wp_aload D_112 rfl rfl ?_
          refine wp_aload D_114 rfl rfl ?_
          refine wp_init (c_seq l Z a0 hw a23 a4 a1 [(b6, oA .byte [(nar .byte (nar .char (b &&& (255 : Int32)).toUInt32.toUInt16.toUInt32.toInt32).toInt8.toInt32)]), (a4, oI "java/lang/String" sgStr [(.ref b6), (.int (0 : Int32))]), (a5, oA .char [(nar .char (b &&& (255 : Int32)).toUInt32.toUInt16.toUInt32.toInt32)]), (b3, oA .byte [(nar .byte (nar .char (a &&& (255 : Int32)).toUInt32.toUInt16.toUInt32.toInt32).toInt8.toInt32), (nar .byte (nar .char ((XT.ushr a (8 : Int32)) &&& (255 : Int32)).toUInt32.toUInt16.toUInt32.toInt32).toInt8.toInt32)]), (a1, oI "java/lang/String" sgStr [(.ref b3), (.int (0 : Int32))]), (a2, oA .char [(nar .char (a &&& (255 : Int32)).toUInt32.toUInt16.toUInt32.toInt32), (nar .char ((XT.ushr a (8 : Int32)) &&& (255 : Int32)).toUInt32.toUInt16.toUInt32.toInt32)])]) D_116 rfl (hw _ (List.mem_of_getElem? (i := 33) rfl)) (hw _ (List.mem_of_getElem? (i := 34) rfl)) (hw _ (List.mem_of_getElem? (i := 32) rfl)) (hw _ (List.mem_of_getElem? (i := 35) rfl)) (by decide) pd_10 rfl rfl rfl (Nat.le_of_ble_eq_true rfl) (Nat.le_of_ble_eq_true rfl) (Nat.le_of_ble_eq_true rfl) (Nat.le_of_ble_eq_true rfl) ?_
          rintro _ _ ⟨rfl, rfl⟩
          show Wp none l Z "com/example/dalles/dalles/schema/PostgreSqlColumnIsIdentityPinLaw" "law" code maxLocals ret room_1 [(a23, oI "com/example/dalles/dalles/schema/Sequence" sg_1 [(.ref a4), (.ref a1)]), (b6, oA .byte [(nar .byte (nar .char (b &&& (255 : Int32)).toUInt32.toUInt16.toUInt32.toInt32).toInt8.toInt32)]), (a4, oI "java/lang/String" sgStr [(.ref b6), (.int (0 : Int32))]), (a5, oA .char [(nar .char (b &&& (255 : Int32)).toUInt32.toUInt16.toUInt32.toInt32)]), (b3, oA .byte [(nar .byte (nar .char (a &&& (255 : Int32)).toUInt32.toUInt16.toUInt32.toInt32).toInt8.toInt32), (nar .byte (nar .char ((XT.ushr a (8 : Int32)) &&& (255 : Int32)).toUInt32.toUInt16.toUInt32.toInt32).toInt8.toInt32)]), (a1, oI "java/lang/String" sgStr [(.ref b3), (.int (0 : Int32))]), (a2, oA .char [(nar .char (a &&& (255 : Int32)).toUInt32.toUInt16.toUInt32.toInt32), (nar .char ((XT.ushr a (8 : Int32)) &&& (255 : Int32)).toUInt32.toUInt16.toUInt32.toInt32)])] 7 16 119 #[.val (.int a), .val (.int b), .val (.int c), .val (.int flags), .val (.ref a1), .val (.ref a4), .val (.int b8), .val (.int b12), .val (.int b16), .val (.int b20), .unset, .unset, .unset, .unset] [(.ref a23)] Q_law
          refine wp_astore #[.val (.int a), .val (.int b), .val (.int c), .val (.int flags), .val (.ref a1), .val (.ref a4), .val (.int b8), .val (.int b12), .val (.int b16), .val (.int b20), .val (.ref a23), .unset, .unset, .unset] D_119 rfl rfl ?_
          refine wp_new sg_2 [(.null), (.null), (.null), (.null), (.int (0 : Int32)), (.null), (.int (0 : Int32))] D_121 (hw _ (List.mem_of_getElem? (i := 41) rfl)) (hw _ (List.mem_of_getElem? (i := 42) rfl)) (hw _ (List.mem_of_getElem? (i := 43) rfl)) (laid_sg_2 l Z a0 hw) (by decide) dfl_sg_2 (by decide) (by decide) ?_
          intro a24
          show Wp none l Z "com/example/dalles/dalles/schema/PostgreSqlColumnIsIdentityPinLaw" "law" code maxLocals ret room_1 [(a24, oI "com/example/dalles/dalles/schema/PostgreSqlColumn" sg_2 [(.null), (.null), (.null), (.null), (.int (0 : Int32)), (.null), (.int (0 : Int32))]), (a23, oI "com/example/dalles/dalles/schema/Sequence" sg_1 [(.ref a4), (.ref a1)]), (b6, oA .byte [(nar .byte (nar .char (b &&& (255 : Int32)).toUInt32.toUInt16.toUInt32.toInt32).toInt8.toInt32)]), (a4, oI "java/lang/String" sgStr [(.ref b6), (.int (0 : Int32))]), (a5, oA .char [(nar .char (b &&& (255 : Int32)).toUInt32.toUInt16.toUInt32.toInt32)]), (b3, oA .byte [(nar .byte (nar .char (a &&& (255 : Int32)).toUInt32.toUInt16.toUInt32.toInt32).toInt8.toInt32), (nar .byte (nar .char ((XT.ushr a (8 : Int32)) &&& (255 : Int32)).toUInt32.toUInt16.toUInt32.toInt32).toInt8.toInt32)]), (a1, oI "java/lang/String" sgStr [(.ref b3), (.int (0 : Int32))]), (a2, oA .char [(nar .char (a &&& (255 : Int32)).toUInt32.toUInt16.toUInt32.toInt32), (nar .char ((XT.ushr a (8 : Int32)) &&& (255 : Int32)).toUInt32.toUInt16.toUInt32.toInt32)])] 8 23 124 #[.val (.int a), .val (.int b), .val (.int c), .val (.int flags), .val (.ref a1), .val (.ref a4), .val (.int b8), .val (.int b12), .val (.int b16), .val (.int b20), .val (.ref a23), .unset, .unset, .unset] [(.ref a24)] Q_law
          refine wp_dup D_124 rfl ?_
          refine wp_aload D_125 rfl rfl ?_
          refine wp_aload D_127 rfl rfl ?_
          refine wp_iload_n D_129 rfl ?_
          refine wp_init (c_col l Z a0 hw a24 a1 a4 c aN aE [(a23, oI "com/example/dalles/dalles/schema/Sequence" sg_1 [(.ref a4), (.ref a1)]), (b6, oA .byte [(nar .byte (nar .char (b &&& (255 : Int32)).toUInt32.toUInt16.toUInt32.toInt32).toInt8.toInt32)]), (a4, oI "java/lang/String" sgStr [(.ref b6), (.int (0 : Int32))]), (a5, oA .char [(nar .char (b &&& (255 : Int32)).toUInt32.toUInt16.toUInt32.toInt32)]), (b3, oA .byte [(nar .byte (nar .char (a &&& (255 : Int32)).toUInt32.toUInt16.toUInt32.toInt32).toInt8.toInt32), (nar .byte (nar .char ((XT.ushr a (8 : Int32)) &&& (255 : Int32)).toUInt32.toUInt16.toUInt32.toInt32).toInt8.toInt32)]), (a1, oI "java/lang/String" sgStr [(.ref b3), (.int (0 : Int32))]), (a2, oA .char [(nar .char (a &&& (255 : Int32)).toUInt32.toUInt16.toUInt32.toInt32), (nar .char ((XT.ushr a (8 : Int32)) &&& (255 : Int32)).toUInt32.toUInt16.toUInt32.toInt32)])] S_N S_E) D_130 rfl (hw _ (List.mem_of_getElem? (i := 44) rfl)) (hw _ (List.mem_of_getElem? (i := 45) rfl)) (hw _ (List.mem_of_getElem? (i := 43) rfl)) (hw _ (List.mem_of_getElem? (i := 46) rfl)) (by decide) pd_6 rfl rfl rfl (Nat.le_of_ble_eq_true rfl) (Nat.le_of_ble_eq_true rfl) (Nat.le_of_ble_eq_true rfl) (Nat.le_of_ble_eq_true rfl) ?_
          rintro _ _ ⟨rfl, rfl⟩
          show Wp none l Z "com/example/dalles/dalles/schema/PostgreSqlColumnIsIdentityPinLaw" "law" code maxLocals ret room_1 [(a24, oI "com/example/dalles/dalles/schema/PostgreSqlColumn" sg_2 [(.ref aN), (.ref aE), (.ref a1), (.ref a4), (.int c), (.null), (.int (0 : Int32))]), (a23, oI "com/example/dalles/dalles/schema/Sequence" sg_1 [(.ref a4), (.ref a1)]), (b6, oA .byte [(nar .byte (nar .char (b &&& (255 : Int32)).toUInt32.toUInt16.toUInt32.toInt32).toInt8.toInt32)]), (a4, oI "java/lang/String" sgStr [(.ref b6), (.int (0 : Int32))]), (a5, oA .char [(nar .char (b &&& (255 : Int32)).toUInt32.toUInt16.toUInt32.toInt32)]), (b3, oA .byte [(nar .byte (nar .char (a &&& (255 : Int32)).toUInt32.toUInt16.toUInt32.toInt32).toInt8.toInt32), (nar .byte (nar .char ((XT.ushr a (8 : Int32)) &&& (255 : Int32)).toUInt32.toUInt16.toUInt32.toInt32).toInt8.toInt32)]), (a1, oI "java/lang/String" sgStr [(.ref b3), (.int (0 : Int32))]), (a2, oA .char [(nar .char (a &&& (255 : Int32)).toUInt32.toUInt16.toUInt32.toInt32), (nar .char ((XT.ushr a (8 : Int32)) &&& (255 : Int32)).toUInt32.toUInt16.toUInt32.toInt32)])] 8 23 133 #[.val (.int a), .val (.int b), .val (.int c), .val (.int flags), .val (.ref a1), .val (.ref a4), .val (.int b8), .val (.int b12), .val (.int b16), .val (.int b20), .val (.ref a23), .unset, .unset, .unset] [(.ref a24)] Q_law
          refine wp_astore #[.val (.int a), .val (.int b), .val (.int c), .val (.int flags), .val (.ref a1), .val (.ref a4), .val (.int b8), .val (.int b12), .val (.int b16), .val (.int b20), .val (.ref a23), .val (.ref a24), .unset, .unset] D_133 rfl rfl ?_
          refine wp_aload D_135 rfl rfl ?_
          refine wp_virtual (c_id0 l Z a0 hw a24 aN a1 a4 c (0 : Int32) aE [(a23, oI "com/example/dalles/dalles/schema/Sequence" sg_1 [(.ref a4), (.ref a1)]), (b6, oA .byte [(nar .byte (nar .char (b &&& (255 : Int32)).toUInt32.toUInt16.toUInt32.toInt32).toInt8.toInt32)]), (a4, oI "java/lang/String" sgStr [(.ref b6), (.int (0 : Int32))]), (a5, oA .char [(nar .char (b &&& (255 : Int32)).toUInt32.toUInt16.toUInt32.toInt32)]), (b3, oA .byte [(nar .byte (nar .char (a &&& (255 : Int32)).toUInt32.toUInt16.toUInt32.toInt32).toInt8.toInt32), (nar .byte (nar .char ((XT.ushr a (8 : Int32)) &&& (255 : Int32)).toUInt32.toUInt16.toUInt32.toInt32).toInt8.toInt32)]), (a1, oI "java/lang/String" sgStr [(.ref b3), (.int (0 : Int32))]), (a2, oA .char [(nar .char (a &&& (255 : Int32)).toUInt32.toUInt16.toUInt32.toInt32), (nar .char ((XT.ushr a (8 : Int32)) &&& (255 : Int32)).toUInt32.toUInt16.toUInt32.toInt32)])]) (exa_new (i := 0) rfl) D_137 (hw _ (List.mem_of_getElem? (i := 66) rfl)) (hw _ (List.mem_of_getElem? (i := 67) rfl)) (hw _ (List.mem_of_getElem? (i := 69) rfl)) (hw _ (List.mem_of_getElem? (i := 69) rfl)) (hw _ (List.mem_of_getElem? (i := 68) rfl)) (hw _ (List.mem_of_getElem? (i := 43) rfl)) (hw _ (List.mem_of_getElem? (i := 70) rfl)) (by decide) pd_11 rfl rfl rfl (Nat.le_of_ble_eq_true rfl) (Nat.le_of_ble_eq_true rfl) (Nat.le_of_ble_eq_true rfl) (Nat.le_of_ble_eq_true rfl) ?_
          rintro _ _ ⟨rfl, rfl⟩
          show Wp none l Z "com/example/dalles/dalles/schema/PostgreSqlColumnIsIdentityPinLaw" "law" code maxLocals ret room_1 [(a24, oI "com/example/dalles/dalles/schema/PostgreSqlColumn" sg_2 [(.ref aN), (.ref aE), (.ref a1), (.ref a4), (.int c), (.null), (.int (0 : Int32))]), (a23, oI "com/example/dalles/dalles/schema/Sequence" sg_1 [(.ref a4), (.ref a1)]), (b6, oA .byte [(nar .byte (nar .char (b &&& (255 : Int32)).toUInt32.toUInt16.toUInt32.toInt32).toInt8.toInt32)]), (a4, oI "java/lang/String" sgStr [(.ref b6), (.int (0 : Int32))]), (a5, oA .char [(nar .char (b &&& (255 : Int32)).toUInt32.toUInt16.toUInt32.toInt32)]), (b3, oA .byte [(nar .byte (nar .char (a &&& (255 : Int32)).toUInt32.toUInt16.toUInt32.toInt32).toInt8.toInt32), (nar .byte (nar .char ((XT.ushr a (8 : Int32)) &&& (255 : Int32)).toUInt32.toUInt16.toUInt32.toInt32).toInt8.toInt32)]), (a1, oI "java/lang/String" sgStr [(.ref b3), (.int (0 : Int32))]), (a2, oA .char [(nar .char (a &&& (255 : Int32)).toUInt32.toUInt16.toUInt32.toInt32), (nar .char ((XT.ushr a (8 : Int32)) &&& (255 : Int32)).toUInt32.toUInt16.toUInt32.toInt32)])] 8 23 140 #[.val (.int a), .val (.int b), .val (.int c), .val (.int flags), .val (.ref a1), .val (.ref a4), .val (.int b8), .val (.int b12), .val (.int b16), .val (.int b20), .val (.ref a23), .val (.ref a24), .unset, .unset] [(.int (0 : Int32))] Q_law
          refine wp_if_ne D_140 (pc'' := 147) ⟨by decide, by decide⟩ (fun h25 => by exact absurd h25 (by decide)) (fun h25 => ?_)
          refine wp_iconst 1 D_143 (by decide) ?_
          refine wp_goto D_144 (pc'' := 148) ⟨by decide, by decide⟩ ?_
          refine wp_istore #[.val (.int a), .val (.int b), .val (.int c), .val (.int flags), .val (.ref a1), .val (.ref a4), .val (.int b8), .val (.int b12), .val (.int b16), .val (.int b20), .val (.ref a23), .val (.ref a24), .val (.int (1 : Int32)), .unset] D_148 rfl ?_
          refine wp_iload D_150 rfl ?_
          have J30 : ∀ (b27 : Addr) (b28 : Int32), ((b8 = (0 : Int32) ∧ b27 = aN ∧ b28 = (0 : Int32)) ∨ (¬ b8 = (0 : Int32) ∧ b27 = (pk aN aR (flags &&& (2 : Int32))) ∧ b28 = (1 : Int32))) → Wp none l Z "com/example/dalles/dalles/schema/PostgreSqlColumnIsIdentityPinLaw" "law" code maxLocals ret room_1 [(a24, oI "com/example/dalles/dalles/schema/PostgreSqlColumn" sg_2 [(.ref b27), (.ref aE), (.ref a1), (.ref a4), (.int c), (.null), (.int b28)]), (a23, oI "com/example/dalles/dalles/schema/Sequence" sg_1 [(.ref a4), (.ref a1)]), (b6, oA .byte [(nar .byte (nar .char (b &&& (255 : Int32)).toUInt32.toUInt16.toUInt32.toInt32).toInt8.toInt32)]), (a4, oI "java/lang/String" sgStr [(.ref b6), (.int (0 : Int32))]), (a5, oA .char [(nar .char (b &&& (255 : Int32)).toUInt32.toUInt16.toUInt32.toInt32)]), (b3, oA .byte [(nar .byte (nar .char (a &&& (255 : Int32)).toUInt32.toUInt16.toUInt32.toInt32).toInt8.toInt32), (nar .byte (nar .char ((XT.ushr a (8 : Int32)) &&& (255 : Int32)).toUInt32.toUInt16.toUInt32.toInt32).toInt8.toInt32)]), (a1, oI "java/lang/String" sgStr [(.ref b3), (.int (0 : Int32))]), (a2, oA .char [(nar .char (a &&& (255 : Int32)).toUInt32.toUInt16.toUInt32.toInt32), (nar .char ((XT.ushr a (8 : Int32)) &&& (255 : Int32)).toUInt32.toUInt16.toUInt32.toInt32)])] 8 23 166 #[.val (.int a), .val (.int b), .val (.int c), .val (.int flags), .val (.ref a1), .val (.ref a4), .val (.int b8), .val (.int b12), .val (.int b16), .val (.int b20), .val (.ref a23), .val (.ref a24), .val (.int (1 : Int32)), .unset] [] Q_law := by
            intro b27 b28 hj29
            refine wp_iload D_166 rfl ?_
            refine wp_if_eq D_168 (pc'' := 178) ⟨by decide, by decide⟩ (fun h31 => ?_) (fun h31 => ?_)
            · skip
              refine wp_iload D_178 rfl ?_
              have J36 : ∀ (b33 : Addr) (b34 : Int32), ((b16 = (0 : Int32) ∧ b33 = b27 ∧ b34 = b28) ∨ (¬ b16 = (0 : Int32) ∧ b33 = (pk aN aR (flags &&& (16 : Int32))) ∧ b34 = (1 : Int32))) → Wp none l Z "com/example/dalles/dalles/schema/PostgreSqlColumnIsIdentityPinLaw" "law" code maxLocals ret room_1 [(a24, oI "com/example/dalles/dalles/schema/PostgreSqlColumn" sg_2 [(.ref b33), (.ref aE), (.ref a1), (.ref a4), (.int c), (.null), (.int b34)]), (a23, oI "com/example/dalles/dalles/schema/Sequence" sg_1 [(.ref a4), (.ref a1)]), (b6, oA .byte [(nar .byte (nar .char (b &&& (255 : Int32)).toUInt32.toUInt16.toUInt32.toInt32).toInt8.toInt32)]), (a4, oI "java/lang/String" sgStr [(.ref b6), (.int (0 : Int32))]), (a5, oA .char [(nar .char (b &&& (255 : Int32)).toUInt32.toUInt16.toUInt32.toInt32)]), (b3, oA .byte [(nar .byte (nar .char (a &&& (255 : Int32)).toUInt32.toUInt16.toUInt32.toInt32).toInt8.toInt32), (nar .byte (nar .char ((XT.ushr a (8 : Int32)) &&& (255 : Int32)).toUInt32.toUInt16.toUInt32.toInt32).toInt8.toInt32)]), (a1, oI "java/lang/String" sgStr [(.ref b3), (.int (0 : Int32))]), (a2, oA .char [(nar .char (a &&& (255 : Int32)).toUInt32.toUInt16.toUInt32.toInt32), (nar .char ((XT.ushr a (8 : Int32)) &&& (255 : Int32)).toUInt32.toUInt16.toUInt32.toInt32)])] 8 23 195 #[.val (.int a), .val (.int b), .val (.int c), .val (.int flags), .val (.ref a1), .val (.ref a4), .val (.int b8), .val (.int b12), .val (.int b16), .val (.int b20), .val (.ref a23), .val (.ref a24), .val (.int (1 : Int32)), .unset] [] Q_law := by
                intro b33 b34 hj35
                refine wp_iload D_195 rfl ?_
                refine wp_if_eq D_197 (pc'' := 214) ⟨by decide, by decide⟩ (fun h37 => by exact absurd h37 (by decide)) (fun h37 => ?_)
                refine wp_aload D_200 rfl rfl ?_
                refine wp_virtual (c_id0 l Z a0 hw a24 b33 a1 a4 c b34 aE [(a23, oI "com/example/dalles/dalles/schema/Sequence" sg_1 [(.ref a4), (.ref a1)]), (b6, oA .byte [(nar .byte (nar .char (b &&& (255 : Int32)).toUInt32.toUInt16.toUInt32.toInt32).toInt8.toInt32)]), (a4, oI "java/lang/String" sgStr [(.ref b6), (.int (0 : Int32))]), (a5, oA .char [(nar .char (b &&& (255 : Int32)).toUInt32.toUInt16.toUInt32.toInt32)]), (b3, oA .byte [(nar .byte (nar .char (a &&& (255 : Int32)).toUInt32.toUInt16.toUInt32.toInt32).toInt8.toInt32), (nar .byte (nar .char ((XT.ushr a (8 : Int32)) &&& (255 : Int32)).toUInt32.toUInt16.toUInt32.toInt32).toInt8.toInt32)]), (a1, oI "java/lang/String" sgStr [(.ref b3), (.int (0 : Int32))]), (a2, oA .char [(nar .char (a &&& (255 : Int32)).toUInt32.toUInt16.toUInt32.toInt32), (nar .char ((XT.ushr a (8 : Int32)) &&& (255 : Int32)).toUInt32.toUInt16.toUInt32.toInt32)])]) (exa_new (i := 0) rfl) D_202 (hw _ (List.mem_of_getElem? (i := 66) rfl)) (hw _ (List.mem_of_getElem? (i := 67) rfl)) (hw _ (List.mem_of_getElem? (i := 69) rfl)) (hw _ (List.mem_of_getElem? (i := 69) rfl)) (hw _ (List.mem_of_getElem? (i := 68) rfl)) (hw _ (List.mem_of_getElem? (i := 43) rfl)) (hw _ (List.mem_of_getElem? (i := 70) rfl)) (by decide) pd_11 rfl rfl rfl (Nat.le_of_ble_eq_true rfl) (Nat.le_of_ble_eq_true rfl) (Nat.le_of_ble_eq_true rfl) (Nat.le_of_ble_eq_true rfl) ?_
                rintro _ _ ⟨rfl, rfl⟩
                show Wp none l Z "com/example/dalles/dalles/schema/PostgreSqlColumnIsIdentityPinLaw" "law" code maxLocals ret room_1 [(a24, oI "com/example/dalles/dalles/schema/PostgreSqlColumn" sg_2 [(.ref b33), (.ref aE), (.ref a1), (.ref a4), (.int c), (.null), (.int b34)]), (a23, oI "com/example/dalles/dalles/schema/Sequence" sg_1 [(.ref a4), (.ref a1)]), (b6, oA .byte [(nar .byte (nar .char (b &&& (255 : Int32)).toUInt32.toUInt16.toUInt32.toInt32).toInt8.toInt32)]), (a4, oI "java/lang/String" sgStr [(.ref b6), (.int (0 : Int32))]), (a5, oA .char [(nar .char (b &&& (255 : Int32)).toUInt32.toUInt16.toUInt32.toInt32)]), (b3, oA .byte [(nar .byte (nar .char (a &&& (255 : Int32)).toUInt32.toUInt16.toUInt32.toInt32).toInt8.toInt32), (nar .byte (nar .char ((XT.ushr a (8 : Int32)) &&& (255 : Int32)).toUInt32.toUInt16.toUInt32.toInt32).toInt8.toInt32)]), (a1, oI "java/lang/String" sgStr [(.ref b3), (.int (0 : Int32))]), (a2, oA .char [(nar .char (a &&& (255 : Int32)).toUInt32.toUInt16.toUInt32.toInt32), (nar .char ((XT.ushr a (8 : Int32)) &&& (255 : Int32)).toUInt32.toUInt16.toUInt32.toInt32)])] 8 23 205 #[.val (.int a), .val (.int b), .val (.int c), .val (.int flags), .val (.ref a1), .val (.ref a4), .val (.int b8), .val (.int b12), .val (.int b16), .val (.int b20), .val (.ref a23), .val (.ref a24), .val (.int (1 : Int32)), .unset] [(.int (0 : Int32))] Q_law
                refine wp_iload D_205 rfl ?_
                refine wp_icmp_ne D_207 (pc'' := 214) ⟨by decide, by decide⟩ (fun h38 => by exfalso; (simp only [Int32.lt_iff_toInt_lt, Int32.le_iff_toInt_le, ← Int32.toInt_inj, Int32.reduceToInt, Int64.lt_iff_toInt_lt, ← Int64.toInt_inj, Int64.reduceToInt] at *; omega)) (fun h38 => ?_)
                refine wp_iconst 1 D_210 (by decide) ?_
                refine wp_goto D_211 (pc'' := 215) ⟨by decide, by decide⟩ ?_
                refine wp_istore #[.val (.int a), .val (.int b), .val (.int c), .val (.int flags), .val (.ref a1), .val (.ref a4), .val (.int b8), .val (.int b12), .val (.int b16), .val (.int b20), .val (.ref a23), .val (.ref a24), .val (.int (1 : Int32)), .unset] D_215 rfl ?_
                refine wp_aload D_217 rfl rfl ?_
                refine wp_iload D_219 rfl ?_
                refine wp_virtual (c_copy l Z a0 hw b20 a24 b33 a1 a4 c b34 (.null) aE [(a23, oI "com/example/dalles/dalles/schema/Sequence" sg_1 [(.ref a4), (.ref a1)]), (b6, oA .byte [(nar .byte (nar .char (b &&& (255 : Int32)).toUInt32.toUInt16.toUInt32.toInt32).toInt8.toInt32)]), (a4, oI "java/lang/String" sgStr [(.ref b6), (.int (0 : Int32))]), (a5, oA .char [(nar .char (b &&& (255 : Int32)).toUInt32.toUInt16.toUInt32.toInt32)]), (b3, oA .byte [(nar .byte (nar .char (a &&& (255 : Int32)).toUInt32.toUInt16.toUInt32.toInt32).toInt8.toInt32), (nar .byte (nar .char ((XT.ushr a (8 : Int32)) &&& (255 : Int32)).toUInt32.toUInt16.toUInt32.toInt32).toInt8.toInt32)]), (a1, oI "java/lang/String" sgStr [(.ref b3), (.int (0 : Int32))]), (a2, oA .char [(nar .char (a &&& (255 : Int32)).toUInt32.toUInt16.toUInt32.toInt32), (nar .char ((XT.ushr a (8 : Int32)) &&& (255 : Int32)).toUInt32.toUInt16.toUInt32.toInt32)])] aN S_N S_E) (exa_new (i := 0) rfl) D_221 (hw _ (List.mem_of_getElem? (i := 85) rfl)) (hw _ (List.mem_of_getElem? (i := 86) rfl)) (hw _ (List.mem_of_getElem? (i := 88) rfl)) (hw _ (List.mem_of_getElem? (i := 88) rfl)) (hw _ (List.mem_of_getElem? (i := 87) rfl)) (hw _ (List.mem_of_getElem? (i := 43) rfl)) (hw _ (List.mem_of_getElem? (i := 89) rfl)) (by decide) pd_13 rfl rfl rfl (Nat.le_of_ble_eq_true rfl) (Nat.le_of_ble_eq_true rfl) (Nat.le_of_ble_eq_true rfl) (Nat.le_of_ble_eq_true rfl) ?_
                rintro _ _ ⟨p39, d40, g41, rfl, rfl⟩
                show Wp none l Z "com/example/dalles/dalles/schema/PostgreSqlColumnIsIdentityPinLaw" "law" code maxLocals ret room_1 [(p39, oI "com/example/dalles/dalles/schema/PostgreSqlColumn" sg_2 [(.ref d40), (.ref aE), (.ref a1), (.ref a4), (.int c), (.null), (.int g41)]), (a24, oI "com/example/dalles/dalles/schema/PostgreSqlColumn" sg_2 [(.ref b33), (.ref aE), (.ref a1), (.ref a4), (.int c), (.null), (.int b34)]), (a23, oI "com/example/dalles/dalles/schema/Sequence" sg_1 [(.ref a4), (.ref a1)]), (b6, oA .byte [(nar .byte (nar .char (b &&& (255 : Int32)).toUInt32.toUInt16.toUInt32.toInt32).toInt8.toInt32)]), (a4, oI "java/lang/String" sgStr [(.ref b6), (.int (0 : Int32))]), (a5, oA .char [(nar .char (b &&& (255 : Int32)).toUInt32.toUInt16.toUInt32.toInt32)]), (b3, oA .byte [(nar .byte (nar .char (a &&& (255 : Int32)).toUInt32.toUInt16.toUInt32.toInt32).toInt8.toInt32), (nar .byte (nar .char ((XT.ushr a (8 : Int32)) &&& (255 : Int32)).toUInt32.toUInt16.toUInt32.toInt32).toInt8.toInt32)]), (a1, oI "java/lang/String" sgStr [(.ref b3), (.int (0 : Int32))]), (a2, oA .char [(nar .char (a &&& (255 : Int32)).toUInt32.toUInt16.toUInt32.toInt32), (nar .char ((XT.ushr a (8 : Int32)) &&& (255 : Int32)).toUInt32.toUInt16.toUInt32.toInt32)])] 9 30 224 #[.val (.int a), .val (.int b), .val (.int c), .val (.int flags), .val (.ref a1), .val (.ref a4), .val (.int b8), .val (.int b12), .val (.int b16), .val (.int b20), .val (.ref a23), .val (.ref a24), .val (.int (1 : Int32)), .unset] [(.ref p39)] Q_law
                refine wp_astore #[.val (.int a), .val (.int b), .val (.int c), .val (.int flags), .val (.ref a1), .val (.ref a4), .val (.int b8), .val (.int b12), .val (.int b16), .val (.int b20), .val (.ref a23), .val (.ref a24), .val (.int (1 : Int32)), .val (.ref p39)] D_224 rfl rfl ?_
                refine wp_iload D_226 rfl ?_
                refine wp_if_eq D_228 (pc'' := 243) ⟨by decide, by decide⟩ (fun h42 => by exact absurd h42 (by decide)) (fun h42 => ?_)
                refine wp_aload D_231 rfl rfl ?_
                refine wp_virtual (c_id0 l Z a0 hw p39 d40 a1 a4 c g41 aE [(a24, oI "com/example/dalles/dalles/schema/PostgreSqlColumn" sg_2 [(.ref b33), (.ref aE), (.ref a1), (.ref a4), (.int c), (.null), (.int b34)]), (a23, oI "com/example/dalles/dalles/schema/Sequence" sg_1 [(.ref a4), (.ref a1)]), (b6, oA .byte [(nar .byte (nar .char (b &&& (255 : Int32)).toUInt32.toUInt16.toUInt32.toInt32).toInt8.toInt32)]), (a4, oI "java/lang/String" sgStr [(.ref b6), (.int (0 : Int32))]), (a5, oA .char [(nar .char (b &&& (255 : Int32)).toUInt32.toUInt16.toUInt32.toInt32)]), (b3, oA .byte [(nar .byte (nar .char (a &&& (255 : Int32)).toUInt32.toUInt16.toUInt32.toInt32).toInt8.toInt32), (nar .byte (nar .char ((XT.ushr a (8 : Int32)) &&& (255 : Int32)).toUInt32.toUInt16.toUInt32.toInt32).toInt8.toInt32)]), (a1, oI "java/lang/String" sgStr [(.ref b3), (.int (0 : Int32))]), (a2, oA .char [(nar .char (a &&& (255 : Int32)).toUInt32.toUInt16.toUInt32.toInt32), (nar .char ((XT.ushr a (8 : Int32)) &&& (255 : Int32)).toUInt32.toUInt16.toUInt32.toInt32)])]) (exa_new (i := 0) rfl) D_233 (hw _ (List.mem_of_getElem? (i := 66) rfl)) (hw _ (List.mem_of_getElem? (i := 67) rfl)) (hw _ (List.mem_of_getElem? (i := 69) rfl)) (hw _ (List.mem_of_getElem? (i := 69) rfl)) (hw _ (List.mem_of_getElem? (i := 68) rfl)) (hw _ (List.mem_of_getElem? (i := 43) rfl)) (hw _ (List.mem_of_getElem? (i := 70) rfl)) (by decide) pd_11 rfl rfl rfl (Nat.le_of_ble_eq_true rfl) (Nat.le_of_ble_eq_true rfl) (Nat.le_of_ble_eq_true rfl) (Nat.le_of_ble_eq_true rfl) ?_
                rintro _ _ ⟨rfl, rfl⟩
                show Wp none l Z "com/example/dalles/dalles/schema/PostgreSqlColumnIsIdentityPinLaw" "law" code maxLocals ret room_1 [(p39, oI "com/example/dalles/dalles/schema/PostgreSqlColumn" sg_2 [(.ref d40), (.ref aE), (.ref a1), (.ref a4), (.int c), (.null), (.int g41)]), (a24, oI "com/example/dalles/dalles/schema/PostgreSqlColumn" sg_2 [(.ref b33), (.ref aE), (.ref a1), (.ref a4), (.int c), (.null), (.int b34)]), (a23, oI "com/example/dalles/dalles/schema/Sequence" sg_1 [(.ref a4), (.ref a1)]), (b6, oA .byte [(nar .byte (nar .char (b &&& (255 : Int32)).toUInt32.toUInt16.toUInt32.toInt32).toInt8.toInt32)]), (a4, oI "java/lang/String" sgStr [(.ref b6), (.int (0 : Int32))]), (a5, oA .char [(nar .char (b &&& (255 : Int32)).toUInt32.toUInt16.toUInt32.toInt32)]), (b3, oA .byte [(nar .byte (nar .char (a &&& (255 : Int32)).toUInt32.toUInt16.toUInt32.toInt32).toInt8.toInt32), (nar .byte (nar .char ((XT.ushr a (8 : Int32)) &&& (255 : Int32)).toUInt32.toUInt16.toUInt32.toInt32).toInt8.toInt32)]), (a1, oI "java/lang/String" sgStr [(.ref b3), (.int (0 : Int32))]), (a2, oA .char [(nar .char (a &&& (255 : Int32)).toUInt32.toUInt16.toUInt32.toInt32), (nar .char ((XT.ushr a (8 : Int32)) &&& (255 : Int32)).toUInt32.toUInt16.toUInt32.toInt32)])] 9 30 236 #[.val (.int a), .val (.int b), .val (.int c), .val (.int flags), .val (.ref a1), .val (.ref a4), .val (.int b8), .val (.int b12), .val (.int b16), .val (.int b20), .val (.ref a23), .val (.ref a24), .val (.int (1 : Int32)), .val (.ref p39)] [(.int (0 : Int32))] Q_law
                refine wp_if_ne D_236 (pc'' := 243) ⟨by decide, by decide⟩ (fun h43 => by exact absurd h43 (by decide)) (fun h43 => ?_)
                refine wp_iconst 1 D_239 (by decide) ?_
                refine wp_goto D_240 (pc'' := 244) ⟨by decide, by decide⟩ ?_
                refine wp_istore #[.val (.int a), .val (.int b), .val (.int c), .val (.int flags), .val (.ref a1), .val (.ref a4), .val (.int b8), .val (.int b12), .val (.int b16), .val (.int b20), .val (.ref a23), .val (.ref a24), .val (.int (1 : Int32)), .val (.ref p39)] D_244 rfl ?_
                refine wp_iload D_246 rfl ?_
                refine wp_if_eq D_248 (pc'' := 265) ⟨by decide, by decide⟩ (fun h44 => by exact absurd h44 (by decide)) (fun h44 => ?_)
                refine wp_aload D_251 rfl rfl ?_
                refine Wp.pick [1, 0, 2, 3, 4, 5, 6, 7, 8] (by decide) ?_
                show Wp none l Z "com/example/dalles/dalles/schema/PostgreSqlColumnIsIdentityPinLaw" "law" code maxLocals ret room_1 [(a24, oI "com/example/dalles/dalles/schema/PostgreSqlColumn" sg_2 [(.ref b33), (.ref aE), (.ref a1), (.ref a4), (.int c), (.null), (.int b34)]), (p39, oI "com/example/dalles/dalles/schema/PostgreSqlColumn" sg_2 [(.ref d40), (.ref aE), (.ref a1), (.ref a4), (.int c), (.null), (.int g41)]), (a23, oI "com/example/dalles/dalles/schema/Sequence" sg_1 [(.ref a4), (.ref a1)]), (b6, oA .byte [(nar .byte (nar .char (b &&& (255 : Int32)).toUInt32.toUInt16.toUInt32.toInt32).toInt8.toInt32)]), (a4, oI "java/lang/String" sgStr [(.ref b6), (.int (0 : Int32))]), (a5, oA .char [(nar .char (b &&& (255 : Int32)).toUInt32.toUInt16.toUInt32.toInt32)]), (b3, oA .byte [(nar .byte (nar .char (a &&& (255 : Int32)).toUInt32.toUInt16.toUInt32.toInt32).toInt8.toInt32), (nar .byte (nar .char ((XT.ushr a (8 : Int32)) &&& (255 : Int32)).toUInt32.toUInt16.toUInt32.toInt32).toInt8.toInt32)]), (a1, oI "java/lang/String" sgStr [(.ref b3), (.int (0 : Int32))]), (a2, oA .char [(nar .char (a &&& (255 : Int32)).toUInt32.toUInt16.toUInt32.toInt32), (nar .char ((XT.ushr a (8 : Int32)) &&& (255 : Int32)).toUInt32.toUInt16.toUInt32.toInt32)])] 9 30 253 #[.val (.int a), .val (.int b), .val (.int c), .val (.int flags), .val (.ref a1), .val (.ref a4), .val (.int b8), .val (.int b12), .val (.int b16), .val (.int b20), .val (.ref a23), .val (.ref a24), .val (.int (1 : Int32)), .val (.ref p39)] [(.ref a24)] Q_law
                refine wp_virtual (c_id0 l Z a0 hw a24 b33 a1 a4 c b34 aE [(p39, oI "com/example/dalles/dalles/schema/PostgreSqlColumn" sg_2 [(.ref d40), (.ref aE), (.ref a1), (.ref a4), (.int c), (.null), (.int g41)]), (a23, oI "com/example/dalles/dalles/schema/Sequence" sg_1 [(.ref a4), (.ref a1)]), (b6, oA .byte [(nar .byte (nar .char (b &&& (255 : Int32)).toUInt32.toUInt16.toUInt32.toInt32).toInt8.toInt32)]), (a4, oI "java/lang/String" sgStr [(.ref b6), (.int (0 : Int32))]), (a5, oA .char [(nar .char (b &&& (255 : Int32)).toUInt32.toUInt16.toUInt32.toInt32)]), (b3, oA .byte [(nar .byte (nar .char (a &&& (255 : Int32)).toUInt32.toUInt16.toUInt32.toInt32).toInt8.toInt32), (nar .byte (nar .char ((XT.ushr a (8 : Int32)) &&& (255 : Int32)).toUInt32.toUInt16.toUInt32.toInt32).toInt8.toInt32)]), (a1, oI "java/lang/String" sgStr [(.ref b3), (.int (0 : Int32))]), (a2, oA .char [(nar .char (a &&& (255 : Int32)).toUInt32.toUInt16.toUInt32.toInt32), (nar .char ((XT.ushr a (8 : Int32)) &&& (255 : Int32)).toUInt32.toUInt16.toUInt32.toInt32)])]) (exa_new (i := 0) rfl) D_253 (hw _ (List.mem_of_getElem? (i := 66) rfl)) (hw _ (List.mem_of_getElem? (i := 67) rfl)) (hw _ (List.mem_of_getElem? (i := 69) rfl)) (hw _ (List.mem_of_getElem? (i := 69) rfl)) (hw _ (List.mem_of_getElem? (i := 68) rfl)) (hw _ (List.mem_of_getElem? (i := 43) rfl)) (hw _ (List.mem_of_getElem? (i := 70) rfl)) (by decide) pd_11 rfl rfl rfl (Nat.le_of_ble_eq_true rfl) (Nat.le_of_ble_eq_true rfl) (Nat.le_of_ble_eq_true rfl) (Nat.le_of_ble_eq_true rfl) ?_
                rintro _ _ ⟨rfl, rfl⟩
                show Wp none l Z "com/example/dalles/dalles/schema/PostgreSqlColumnIsIdentityPinLaw" "law" code maxLocals ret room_1 [(a24, oI "com/example/dalles/dalles/schema/PostgreSqlColumn" sg_2 [(.ref b33), (.ref aE), (.ref a1), (.ref a4), (.int c), (.null), (.int b34)]), (p39, oI "com/example/dalles/dalles/schema/PostgreSqlColumn" sg_2 [(.ref d40), (.ref aE), (.ref a1), (.ref a4), (.int c), (.null), (.int g41)]), (a23, oI "com/example/dalles/dalles/schema/Sequence" sg_1 [(.ref a4), (.ref a1)]), (b6, oA .byte [(nar .byte (nar .char (b &&& (255 : Int32)).toUInt32.toUInt16.toUInt32.toInt32).toInt8.toInt32)]), (a4, oI "java/lang/String" sgStr [(.ref b6), (.int (0 : Int32))]), (a5, oA .char [(nar .char (b &&& (255 : Int32)).toUInt32.toUInt16.toUInt32.toInt32)]), (b3, oA .byte [(nar .byte (nar .char (a &&& (255 : Int32)).toUInt32.toUInt16.toUInt32.toInt32).toInt8.toInt32), (nar .byte (nar .char ((XT.ushr a (8 : Int32)) &&& (255 : Int32)).toUInt32.toUInt16.toUInt32.toInt32).toInt8.toInt32)]), (a1, oI "java/lang/String" sgStr [(.ref b3), (.int (0 : Int32))]), (a2, oA .char [(nar .char (a &&& (255 : Int32)).toUInt32.toUInt16.toUInt32.toInt32), (nar .char ((XT.ushr a (8 : Int32)) &&& (255 : Int32)).toUInt32.toUInt16.toUInt32.toInt32)])] 9 30 256 #[.val (.int a), .val (.int b), .val (.int c), .val (.int flags), .val (.ref a1), .val (.ref a4), .val (.int b8), .val (.int b12), .val (.int b16), .val (.int b20), .val (.ref a23), .val (.ref a24), .val (.int (1 : Int32)), .val (.ref p39)] [(.int (0 : Int32))] Q_law
                refine wp_iload D_256 rfl ?_
                refine wp_icmp_ne D_258 (pc'' := 265) ⟨by decide, by decide⟩ (fun h45 => by exfalso; (simp only [Int32.lt_iff_toInt_lt, Int32.le_iff_toInt_le, ← Int32.toInt_inj, Int32.reduceToInt, Int64.lt_iff_toInt_lt, ← Int64.toInt_inj, Int64.reduceToInt] at *; omega)) (fun h45 => ?_)
                refine wp_iconst 1 D_261 (by decide) ?_
                refine wp_goto D_262 (pc'' := 266) ⟨by decide, by decide⟩ ?_
                refine wp_istore #[.val (.int a), .val (.int b), .val (.int c), .val (.int flags), .val (.ref a1), .val (.ref a4), .val (.int b8), .val (.int b12), .val (.int b16), .val (.int b20), .val (.ref a23), .val (.ref a24), .val (.int (1 : Int32)), .val (.ref p39)] D_266 rfl ?_
                refine wp_iload D_268 rfl ?_
                refine wp_ireturnN D_270 rfl (by simp) (by decide) (by decide) ?_
                exact rfl
              refine wp_if_eq D_180 (pc'' := 195) ⟨by decide, by decide⟩ (fun h32 => ?_) (fun h32 => ?_)
              · skip
                exact (J36 b27 b28 (Or.inl ⟨h32, rfl, rfl⟩))
              · skip
                refine wp_aload D_183 rfl rfl ?_
                refine wp_iload_n D_185 rfl ?_
                refine wp_bipush 16 D_186 (by decide) ?_
                refine wp_iand D_188 ?_
                refine wp_callS (c_pick l Z a0 hw (flags &&& (16 : Int32)) aN aR [(a24, oI "com/example/dalles/dalles/schema/PostgreSqlColumn" sg_2 [(.ref b27), (.ref aE), (.ref a1), (.ref a4), (.int c), (.null), (.int b28)]), (a23, oI "com/example/dalles/dalles/schema/Sequence" sg_1 [(.ref a4), (.ref a1)]), (b6, oA .byte [(nar .byte (nar .char (b &&& (255 : Int32)).toUInt32.toUInt16.toUInt32.toInt32).toInt8.toInt32)]), (a4, oI "java/lang/String" sgStr [(.ref b6), (.int (0 : Int32))]), (a5, oA .char [(nar .char (b &&& (255 : Int32)).toUInt32.toUInt16.toUInt32.toInt32)]), (b3, oA .byte [(nar .byte (nar .char (a &&& (255 : Int32)).toUInt32.toUInt16.toUInt32.toInt32).toInt8.toInt32), (nar .byte (nar .char ((XT.ushr a (8 : Int32)) &&& (255 : Int32)).toUInt32.toUInt16.toUInt32.toInt32).toInt8.toInt32)]), (a1, oI "java/lang/String" sgStr [(.ref b3), (.int (0 : Int32))]), (a2, oA .char [(nar .char (a &&& (255 : Int32)).toUInt32.toUInt16.toUInt32.toInt32), (nar .char ((XT.ushr a (8 : Int32)) &&& (255 : Int32)).toUInt32.toUInt16.toUInt32.toInt32)])] S_N S_R) D_189 (hw _ (List.mem_of_getElem? (i := 73) rfl)) (hw _ (List.mem_of_getElem? (i := 74) rfl)) (hw _ (List.mem_of_getElem? (i := 75) rfl)) (hw _ (List.mem_of_getElem? (i := 76) rfl)) (by decide) pd_12 rfl rfl rfl (Nat.le_of_ble_eq_true rfl) (Nat.le_of_ble_eq_true rfl) (Nat.le_of_ble_eq_true rfl) (Nat.le_of_ble_eq_true rfl) ?_
                rintro _ _ ⟨rfl, rfl⟩
                show Wp none l Z "com/example/dalles/dalles/schema/PostgreSqlColumnIsIdentityPinLaw" "law" code maxLocals ret room_1 [(a24, oI "com/example/dalles/dalles/schema/PostgreSqlColumn" sg_2 [(.ref b27), (.ref aE), (.ref a1), (.ref a4), (.int c), (.null), (.int b28)]), (a23, oI "com/example/dalles/dalles/schema/Sequence" sg_1 [(.ref a4), (.ref a1)]), (b6, oA .byte [(nar .byte (nar .char (b &&& (255 : Int32)).toUInt32.toUInt16.toUInt32.toInt32).toInt8.toInt32)]), (a4, oI "java/lang/String" sgStr [(.ref b6), (.int (0 : Int32))]), (a5, oA .char [(nar .char (b &&& (255 : Int32)).toUInt32.toUInt16.toUInt32.toInt32)]), (b3, oA .byte [(nar .byte (nar .char (a &&& (255 : Int32)).toUInt32.toUInt16.toUInt32.toInt32).toInt8.toInt32), (nar .byte (nar .char ((XT.ushr a (8 : Int32)) &&& (255 : Int32)).toUInt32.toUInt16.toUInt32.toInt32).toInt8.toInt32)]), (a1, oI "java/lang/String" sgStr [(.ref b3), (.int (0 : Int32))]), (a2, oA .char [(nar .char (a &&& (255 : Int32)).toUInt32.toUInt16.toUInt32.toInt32), (nar .char ((XT.ushr a (8 : Int32)) &&& (255 : Int32)).toUInt32.toUInt16.toUInt32.toInt32)])] 8 23 192 #[.val (.int a), .val (.int b), .val (.int c), .val (.int flags), .val (.ref a1), .val (.ref a4), .val (.int b8), .val (.int b12), .val (.int b16), .val (.int b20), .val (.ref a23), .val (.ref a24), .val (.int (1 : Int32)), .unset] [(.ref (pk aN aR (flags &&& (16 : Int32)))), (.ref a24)] Q_law
                refine wp_virtual (c_set l Z a0 hw (pk aN aR (flags &&& (16 : Int32))) a24 b27 a1 a4 c b28 (.null) aE [(a23, oI "com/example/dalles/dalles/schema/Sequence" sg_1 [(.ref a4), (.ref a1)]), (b6, oA .byte [(nar .byte (nar .char (b &&& (255 : Int32)).toUInt32.toUInt16.toUInt32.toInt32).toInt8.toInt32)]), (a4, oI "java/lang/String" sgStr [(.ref b6), (.int (0 : Int32))]), (a5, oA .char [(nar .char (b &&& (255 : Int32)).toUInt32.toUInt16.toUInt32.toInt32)]), (b3, oA .byte [(nar .byte (nar .char (a &&& (255 : Int32)).toUInt32.toUInt16.toUInt32.toInt32).toInt8.toInt32), (nar .byte (nar .char ((XT.ushr a (8 : Int32)) &&& (255 : Int32)).toUInt32.toUInt16.toUInt32.toInt32).toInt8.toInt32)]), (a1, oI "java/lang/String" sgStr [(.ref b3), (.int (0 : Int32))]), (a2, oA .char [(nar .char (a &&& (255 : Int32)).toUInt32.toUInt16.toUInt32.toInt32), (nar .char ((XT.ushr a (8 : Int32)) &&& (255 : Int32)).toUInt32.toUInt16.toUInt32.toInt32)])]) (exa_new (i := 0) rfl) D_192 (hw _ (List.mem_of_getElem? (i := 78) rfl)) (hw _ (List.mem_of_getElem? (i := 79) rfl)) (hw _ (List.mem_of_getElem? (i := 81) rfl)) (hw _ (List.mem_of_getElem? (i := 81) rfl)) (hw _ (List.mem_of_getElem? (i := 80) rfl)) (hw _ (List.mem_of_getElem? (i := 43) rfl)) (hw _ (List.mem_of_getElem? (i := 82) rfl)) (by decide) pd_8 rfl rfl rfl (Nat.le_of_ble_eq_true rfl) (Nat.le_of_ble_eq_true rfl) (Nat.le_of_ble_eq_true rfl) (Nat.le_of_ble_eq_true rfl) ?_
                rintro _ _ ⟨rfl, rfl⟩
                show Wp none l Z "com/example/dalles/dalles/schema/PostgreSqlColumnIsIdentityPinLaw" "law" code maxLocals ret room_1 [(a24, oI "com/example/dalles/dalles/schema/PostgreSqlColumn" sg_2 [(.ref (pk aN aR (flags &&& (16 : Int32)))), (.ref aE), (.ref a1), (.ref a4), (.int c), (.null), (.int (1 : Int32))]), (a23, oI "com/example/dalles/dalles/schema/Sequence" sg_1 [(.ref a4), (.ref a1)]), (b6, oA .byte [(nar .byte (nar .char (b &&& (255 : Int32)).toUInt32.toUInt16.toUInt32.toInt32).toInt8.toInt32)]), (a4, oI "java/lang/String" sgStr [(.ref b6), (.int (0 : Int32))]), (a5, oA .char [(nar .char (b &&& (255 : Int32)).toUInt32.toUInt16.toUInt32.toInt32)]), (b3, oA .byte [(nar .byte (nar .char (a &&& (255 : Int32)).toUInt32.toUInt16.toUInt32.toInt32).toInt8.toInt32), (nar .byte (nar .char ((XT.ushr a (8 : Int32)) &&& (255 : Int32)).toUInt32.toUInt16.toUInt32.toInt32).toInt8.toInt32)]), (a1, oI "java/lang/String" sgStr [(.ref b3), (.int (0 : Int32))]), (a2, oA .char [(nar .char (a &&& (255 : Int32)).toUInt32.toUInt16.toUInt32.toInt32), (nar .char ((XT.ushr a (8 : Int32)) &&& (255 : Int32)).toUInt32.toUInt16.toUInt32.toInt32)])] 8 23 195 #[.val (.int a), .val (.int b), .val (.int c), .val (.int flags), .val (.ref a1), .val (.ref a4), .val (.int b8), .val (.int b12), .val (.int b16), .val (.int b20), .val (.ref a23), .val (.ref a24), .val (.int (1 : Int32)), .unset] [] Q_law
                exact (J36 (pk aN aR (flags &&& (16 : Int32))) (1 : Int32) (Or.inr ⟨h32, rfl, rfl⟩))
            · skip
              refine wp_aload D_171 rfl rfl ?_
              refine wp_aload D_173 rfl rfl ?_
              refine wp_virtual (c_mk l Z a0 hw a23 a24 b27 a1 a4 c b28 (.null) aE [(a23, oI "com/example/dalles/dalles/schema/Sequence" sg_1 [(.ref a4), (.ref a1)]), (b6, oA .byte [(nar .byte (nar .char (b &&& (255 : Int32)).toUInt32.toUInt16.toUInt32.toInt32).toInt8.toInt32)]), (a4, oI "java/lang/String" sgStr [(.ref b6), (.int (0 : Int32))]), (a5, oA .char [(nar .char (b &&& (255 : Int32)).toUInt32.toUInt16.toUInt32.toInt32)]), (b3, oA .byte [(nar .byte (nar .char (a &&& (255 : Int32)).toUInt32.toUInt16.toUInt32.toInt32).toInt8.toInt32), (nar .byte (nar .char ((XT.ushr a (8 : Int32)) &&& (255 : Int32)).toUInt32.toUInt16.toUInt32.toInt32).toInt8.toInt32)]), (a1, oI "java/lang/String" sgStr [(.ref b3), (.int (0 : Int32))]), (a2, oA .char [(nar .char (a &&& (255 : Int32)).toUInt32.toUInt16.toUInt32.toInt32), (nar .char ((XT.ushr a (8 : Int32)) &&& (255 : Int32)).toUInt32.toUInt16.toUInt32.toInt32)])]) (exa_new (i := 0) rfl) D_175 (hw _ (List.mem_of_getElem? (i := 97) rfl)) (hw _ (List.mem_of_getElem? (i := 98) rfl)) (hw _ (List.mem_of_getElem? (i := 100) rfl)) (hw _ (List.mem_of_getElem? (i := 100) rfl)) (hw _ (List.mem_of_getElem? (i := 99) rfl)) (hw _ (List.mem_of_getElem? (i := 43) rfl)) (hw _ (List.mem_of_getElem? (i := 101) rfl)) (by decide) pd_14 rfl rfl rfl (Nat.le_of_ble_eq_true rfl) (Nat.le_of_ble_eq_true rfl) (Nat.le_of_ble_eq_true rfl) (Nat.le_of_ble_eq_true rfl) ?_
              rintro _ _ ⟨rfl, rfl⟩
              show Wp none l Z "com/example/dalles/dalles/schema/PostgreSqlColumnIsIdentityPinLaw" "law" code maxLocals ret room_1 [(a24, oI "com/example/dalles/dalles/schema/PostgreSqlColumn" sg_2 [(.ref b27), (.ref aE), (.ref a1), (.ref a4), (.int c), (.ref a23), (.int b28)]), (a23, oI "com/example/dalles/dalles/schema/Sequence" sg_1 [(.ref a4), (.ref a1)]), (b6, oA .byte [(nar .byte (nar .char (b &&& (255 : Int32)).toUInt32.toUInt16.toUInt32.toInt32).toInt8.toInt32)]), (a4, oI "java/lang/String" sgStr [(.ref b6), (.int (0 : Int32))]), (a5, oA .char [(nar .char (b &&& (255 : Int32)).toUInt32.toUInt16.toUInt32.toInt32)]), (b3, oA .byte [(nar .byte (nar .char (a &&& (255 : Int32)).toUInt32.toUInt16.toUInt32.toInt32).toInt8.toInt32), (nar .byte (nar .char ((XT.ushr a (8 : Int32)) &&& (255 : Int32)).toUInt32.toUInt16.toUInt32.toInt32).toInt8.toInt32)]), (a1, oI "java/lang/String" sgStr [(.ref b3), (.int (0 : Int32))]), (a2, oA .char [(nar .char (a &&& (255 : Int32)).toUInt32.toUInt16.toUInt32.toInt32), (nar .char ((XT.ushr a (8 : Int32)) &&& (255 : Int32)).toUInt32.toUInt16.toUInt32.toInt32)])] 8 23 178 #[.val (.int a), .val (.int b), .val (.int c), .val (.int flags), .val (.ref a1), .val (.ref a4), .val (.int b8), .val (.int b12), .val (.int b16), .val (.int b20), .val (.ref a23), .val (.ref a24), .val (.int (1 : Int32)), .unset] [] Q_law
              refine wp_iload D_178 rfl ?_
              have J50 : ∀ (b47 : Addr) (b48 : Int32), ((b16 = (0 : Int32) ∧ b47 = b27 ∧ b48 = b28) ∨ (¬ b16 = (0 : Int32) ∧ b47 = (pk aN aR (flags &&& (16 : Int32))) ∧ b48 = (1 : Int32))) → Wp none l Z "com/example/dalles/dalles/schema/PostgreSqlColumnIsIdentityPinLaw" "law" code maxLocals ret room_1 [(a24, oI "com/example/dalles/dalles/schema/PostgreSqlColumn" sg_2 [(.ref b47), (.ref aE), (.ref a1), (.ref a4), (.int c), (.ref a23), (.int b48)]), (a23, oI "com/example/dalles/dalles/schema/Sequence" sg_1 [(.ref a4), (.ref a1)]), (b6, oA .byte [(nar .byte (nar .char (b &&& (255 : Int32)).toUInt32.toUInt16.toUInt32.toInt32).toInt8.toInt32)]), (a4, oI "java/lang/String" sgStr [(.ref b6), (.int (0 : Int32))]), (a5, oA .char [(nar .char (b &&& (255 : Int32)).toUInt32.toUInt16.toUInt32.toInt32)]), (b3, oA .byte [(nar .byte (nar .char (a &&& (255 : Int32)).toUInt32.toUInt16.toUInt32.toInt32).toInt8.toInt32), (nar .byte (nar .char ((XT.ushr a (8 : Int32)) &&& (255 : Int32)).toUInt32.toUInt16.toUInt32.toInt32).toInt8.toInt32)]), (a1, oI "java/lang/String" sgStr [(.ref b3), (.int (0 : Int32))]), (a2, oA .char [(nar .char (a &&& (255 : Int32)).toUInt32.toUInt16.toUInt32.toInt32), (nar .char ((XT.ushr a (8 : Int32)) &&& (255 : Int32)).toUInt32.toUInt16.toUInt32.toInt32)])] 8 23 195 #[.val (.int a), .val (.int b), .val (.int c), .val (.int flags), .val (.ref a1), .val (.ref a4), .val (.int b8), .val (.int b12), .val (.int b16), .val (.int b20), .val (.ref a23), .val (.ref a24), .val (.int (1 : Int32)), .unset] [] Q_law := by
                intro b47 b48 hj49
                refine wp_iload D_195 rfl ?_
                refine wp_if_eq D_197 (pc'' := 214) ⟨by decide, by decide⟩ (fun h51 => by exact absurd h51 (by decide)) (fun h51 => ?_)
                refine wp_aload D_200 rfl rfl ?_
                refine wp_virtual (c_id1 l Z a0 hw a23 a24 b47 a1 a4 c b48 aE [(a23, oI "com/example/dalles/dalles/schema/Sequence" sg_1 [(.ref a4), (.ref a1)]), (b6, oA .byte [(nar .byte (nar .char (b &&& (255 : Int32)).toUInt32.toUInt16.toUInt32.toInt32).toInt8.toInt32)]), (a4, oI "java/lang/String" sgStr [(.ref b6), (.int (0 : Int32))]), (a5, oA .char [(nar .char (b &&& (255 : Int32)).toUInt32.toUInt16.toUInt32.toInt32)]), (b3, oA .byte [(nar .byte (nar .char (a &&& (255 : Int32)).toUInt32.toUInt16.toUInt32.toInt32).toInt8.toInt32), (nar .byte (nar .char ((XT.ushr a (8 : Int32)) &&& (255 : Int32)).toUInt32.toUInt16.toUInt32.toInt32).toInt8.toInt32)]), (a1, oI "java/lang/String" sgStr [(.ref b3), (.int (0 : Int32))]), (a2, oA .char [(nar .char (a &&& (255 : Int32)).toUInt32.toUInt16.toUInt32.toInt32), (nar .char ((XT.ushr a (8 : Int32)) &&& (255 : Int32)).toUInt32.toUInt16.toUInt32.toInt32)])]) (exa_new (i := 0) rfl) D_202 (hw _ (List.mem_of_getElem? (i := 66) rfl)) (hw _ (List.mem_of_getElem? (i := 67) rfl)) (hw _ (List.mem_of_getElem? (i := 69) rfl)) (hw _ (List.mem_of_getElem? (i := 69) rfl)) (hw _ (List.mem_of_getElem? (i := 68) rfl)) (hw _ (List.mem_of_getElem? (i := 43) rfl)) (hw _ (List.mem_of_getElem? (i := 70) rfl)) (by decide) pd_11 rfl rfl rfl (Nat.le_of_ble_eq_true rfl) (Nat.le_of_ble_eq_true rfl) (Nat.le_of_ble_eq_true rfl) (Nat.le_of_ble_eq_true rfl) ?_
                rintro _ _ ⟨rfl, rfl⟩
                show Wp none l Z "com/example/dalles/dalles/schema/PostgreSqlColumnIsIdentityPinLaw" "law" code maxLocals ret room_1 [(a24, oI "com/example/dalles/dalles/schema/PostgreSqlColumn" sg_2 [(.ref b47), (.ref aE), (.ref a1), (.ref a4), (.int c), (.ref a23), (.int b48)]), (a23, oI "com/example/dalles/dalles/schema/Sequence" sg_1 [(.ref a4), (.ref a1)]), (b6, oA .byte [(nar .byte (nar .char (b &&& (255 : Int32)).toUInt32.toUInt16.toUInt32.toInt32).toInt8.toInt32)]), (a4, oI "java/lang/String" sgStr [(.ref b6), (.int (0 : Int32))]), (a5, oA .char [(nar .char (b &&& (255 : Int32)).toUInt32.toUInt16.toUInt32.toInt32)]), (b3, oA .byte [(nar .byte (nar .char (a &&& (255 : Int32)).toUInt32.toUInt16.toUInt32.toInt32).toInt8.toInt32), (nar .byte (nar .char ((XT.ushr a (8 : Int32)) &&& (255 : Int32)).toUInt32.toUInt16.toUInt32.toInt32).toInt8.toInt32)]), (a1, oI "java/lang/String" sgStr [(.ref b3), (.int (0 : Int32))]), (a2, oA .char [(nar .char (a &&& (255 : Int32)).toUInt32.toUInt16.toUInt32.toInt32), (nar .char ((XT.ushr a (8 : Int32)) &&& (255 : Int32)).toUInt32.toUInt16.toUInt32.toInt32)])] 8 23 205 #[.val (.int a), .val (.int b), .val (.int c), .val (.int flags), .val (.ref a1), .val (.ref a4), .val (.int b8), .val (.int b12), .val (.int b16), .val (.int b20), .val (.ref a23), .val (.ref a24), .val (.int (1 : Int32)), .unset] [(.int (1 : Int32))] Q_law
                refine wp_iload D_205 rfl ?_
                refine wp_icmp_ne D_207 (pc'' := 214) ⟨by decide, by decide⟩ (fun h52 => by exfalso; (simp only [Int32.lt_iff_toInt_lt, Int32.le_iff_toInt_le, ← Int32.toInt_inj, Int32.reduceToInt, Int64.lt_iff_toInt_lt, ← Int64.toInt_inj, Int64.reduceToInt] at *; omega)) (fun h52 => ?_)
                refine wp_iconst 1 D_210 (by decide) ?_
                refine wp_goto D_211 (pc'' := 215) ⟨by decide, by decide⟩ ?_
                refine wp_istore #[.val (.int a), .val (.int b), .val (.int c), .val (.int flags), .val (.ref a1), .val (.ref a4), .val (.int b8), .val (.int b12), .val (.int b16), .val (.int b20), .val (.ref a23), .val (.ref a24), .val (.int (1 : Int32)), .unset] D_215 rfl ?_
                refine wp_aload D_217 rfl rfl ?_
                refine wp_iload D_219 rfl ?_
                refine wp_virtual (c_copy l Z a0 hw b20 a24 b47 a1 a4 c b48 (.ref a23) aE [(a23, oI "com/example/dalles/dalles/schema/Sequence" sg_1 [(.ref a4), (.ref a1)]), (b6, oA .byte [(nar .byte (nar .char (b &&& (255 : Int32)).toUInt32.toUInt16.toUInt32.toInt32).toInt8.toInt32)]), (a4, oI "java/lang/String" sgStr [(.ref b6), (.int (0 : Int32))]), (a5, oA .char [(nar .char (b &&& (255 : Int32)).toUInt32.toUInt16.toUInt32.toInt32)]), (b3, oA .byte [(nar .byte (nar .char (a &&& (255 : Int32)).toUInt32.toUInt16.toUInt32.toInt32).toInt8.toInt32), (nar .byte (nar .char ((XT.ushr a (8 : Int32)) &&& (255 : Int32)).toUInt32.toUInt16.toUInt32.toInt32).toInt8.toInt32)]), (a1, oI "java/lang/String" sgStr [(.ref b3), (.int (0 : Int32))]), (a2, oA .char [(nar .char (a &&& (255 : Int32)).toUInt32.toUInt16.toUInt32.toInt32), (nar .char ((XT.ushr a (8 : Int32)) &&& (255 : Int32)).toUInt32.toUInt16.toUInt32.toInt32)])] aN S_N S_E) (exa_new (i := 0) rfl) D_221 (hw _ (List.mem_of_getElem? (i := 85) rfl)) (hw _ (List.mem_of_getElem? (i := 86) rfl)) (hw _ (List.mem_of_getElem? (i := 88) rfl)) (hw _ (List.mem_of_getElem? (i := 88) rfl)) (hw _ (List.mem_of_getElem? (i := 87) rfl)) (hw _ (List.mem_of_getElem? (i := 43) rfl)) (hw _ (List.mem_of_getElem? (i := 89) rfl)) (by decide) pd_13 rfl rfl rfl (Nat.le_of_ble_eq_true rfl) (Nat.le_of_ble_eq_true rfl) (Nat.le_of_ble_eq_true rfl) (Nat.le_of_ble_eq_true rfl) ?_
                rintro _ _ ⟨p53, d54, g55, rfl, rfl⟩
                show Wp none l Z "com/example/dalles/dalles/schema/PostgreSqlColumnIsIdentityPinLaw" "law" code maxLocals ret room_1 [(p53, oI "com/example/dalles/dalles/schema/PostgreSqlColumn" sg_2 [(.ref d54), (.ref aE), (.ref a1), (.ref a4), (.int c), (.null), (.int g55)]), (a24, oI "com/example/dalles/dalles/schema/PostgreSqlColumn" sg_2 [(.ref b47), (.ref aE), (.ref a1), (.ref a4), (.int c), (.ref a23), (.int b48)]), (a23, oI "com/example/dalles/dalles/schema/Sequence" sg_1 [(.ref a4), (.ref a1)]), (b6, oA .byte [(nar .byte (nar .char (b &&& (255 : Int32)).toUInt32.toUInt16.toUInt32.toInt32).toInt8.toInt32)]), (a4, oI "java/lang/String" sgStr [(.ref b6), (.int (0 : Int32))]), (a5, oA .char [(nar .char (b &&& (255 : Int32)).toUInt32.toUInt16.toUInt32.toInt32)]), (b3, oA .byte [(nar .byte (nar .char (a &&& (255 : Int32)).toUInt32.toUInt16.toUInt32.toInt32).toInt8.toInt32), (nar .byte (nar .char ((XT.ushr a (8 : Int32)) &&& (255 : Int32)).toUInt32.toUInt16.toUInt32.toInt32).toInt8.toInt32)]), (a1, oI "java/lang/String" sgStr [(.ref b3), (.int (0 : Int32))]), (a2, oA .char [(nar .char (a &&& (255 : Int32)).toUInt32.toUInt16.toUInt32.toInt32), (nar .char ((XT.ushr a (8 : Int32)) &&& (255 : Int32)).toUInt32.toUInt16.toUInt32.toInt32)])] 9 30 224 #[.val (.int a), .val (.int b), .val (.int c), .val (.int flags), .val (.ref a1), .val (.ref a4), .val (.int b8), .val (.int b12), .val (.int b16), .val (.int b20), .val (.ref a23), .val (.ref a24), .val (.int (1 : Int32)), .unset] [(.ref p53)] Q_law
                refine wp_astore #[.val (.int a), .val (.int b), .val (.int c), .val (.int flags), .val (.ref a1), .val (.ref a4), .val (.int b8), .val (.int b12), .val (.int b16), .val (.int b20), .val (.ref a23), .val (.ref a24), .val (.int (1 : Int32)), .val (.ref p53)] D_224 rfl rfl ?_
                refine wp_iload D_226 rfl ?_
                refine wp_if_eq D_228 (pc'' := 243) ⟨by decide, by decide⟩ (fun h56 => by exact absurd h56 (by decide)) (fun h56 => ?_)
                refine wp_aload D_231 rfl rfl ?_
                refine wp_virtual (c_id0 l Z a0 hw p53 d54 a1 a4 c g55 aE [(a24, oI "com/example/dalles/dalles/schema/PostgreSqlColumn" sg_2 [(.ref b47), (.ref aE), (.ref a1), (.ref a4), (.int c), (.ref a23), (.int b48)]), (a23, oI "com/example/dalles/dalles/schema/Sequence" sg_1 [(.ref a4), (.ref a1)]), (b6, oA .byte [(nar .byte (nar .char (b &&& (255 : Int32)).toUInt32.toUInt16.toUInt32.toInt32).toInt8.toInt32)]), (a4, oI "java/lang/String" sgStr [(.ref b6), (.int (0 : Int32))]), (a5, oA .char [(nar .char (b &&& (255 : Int32)).toUInt32.toUInt16.toUInt32.toInt32)]), (b3, oA .byte [(nar .byte (nar .char (a &&& (255 : Int32)).toUInt32.toUInt16.toUInt32.toInt32).toInt8.toInt32), (nar .byte (nar .char ((XT.ushr a (8 : Int32)) &&& (255 : Int32)).toUInt32.toUInt16.toUInt32.toInt32).toInt8.toInt32)]), (a1, oI "java/lang/String" sgStr [(.ref b3), (.int (0 : Int32))]), (a2, oA .char [(nar .char (a &&& (255 : Int32)).toUInt32.toUInt16.toUInt32.toInt32), (nar .char ((XT.ushr a (8 : Int32)) &&& (255 : Int32)).toUInt32.toUInt16.toUInt32.toInt32)])]) (exa_new (i := 0) rfl) D_233 (hw _ (List.mem_of_getElem? (i := 66) rfl)) (hw _ (List.mem_of_getElem? (i := 67) rfl)) (hw _ (List.mem_of_getElem? (i := 69) rfl)) (hw _ (List.mem_of_getElem? (i := 69) rfl)) (hw _ (List.mem_of_getElem? (i := 68) rfl)) (hw _ (List.mem_of_getElem? (i := 43) rfl)) (hw _ (List.mem_of_getElem? (i := 70) rfl)) (by decide) pd_11 rfl rfl rfl (Nat.le_of_ble_eq_true rfl) (Nat.le_of_ble_eq_true rfl) (Nat.le_of_ble_eq_true rfl) (Nat.le_of_ble_eq_true rfl) ?_
                rintro _ _ ⟨rfl, rfl⟩
                show Wp none l Z "com/example/dalles/dalles/schema/PostgreSqlColumnIsIdentityPinLaw" "law" code maxLocals ret room_1 [(p53, oI "com/example/dalles/dalles/schema/PostgreSqlColumn" sg_2 [(.ref d54), (.ref aE), (.ref a1), (.ref a4), (.int c), (.null), (.int g55)]), (a24, oI "com/example/dalles/dalles/schema/PostgreSqlColumn" sg_2 [(.ref b47), (.ref aE), (.ref a1), (.ref a4), (.int c), (.ref a23), (.int b48)]), (a23, oI "com/example/dalles/dalles/schema/Sequence" sg_1 [(.ref a4), (.ref a1)]), (b6, oA .byte [(nar .byte (nar .char (b &&& (255 : Int32)).toUInt32.toUInt16.toUInt32.toInt32).toInt8.toInt32)]), (a4, oI "java/lang/String" sgStr [(.ref b6), (.int (0 : Int32))]), (a5, oA .char [(nar .char (b &&& (255 : Int32)).toUInt32.toUInt16.toUInt32.toInt32)]), (b3, oA .byte [(nar .byte (nar .char (a &&& (255 : Int32)).toUInt32.toUInt16.toUInt32.toInt32).toInt8.toInt32), (nar .byte (nar .char ((XT.ushr a (8 : Int32)) &&& (255 : Int32)).toUInt32.toUInt16.toUInt32.toInt32).toInt8.toInt32)]), (a1, oI "java/lang/String" sgStr [(.ref b3), (.int (0 : Int32))]), (a2, oA .char [(nar .char (a &&& (255 : Int32)).toUInt32.toUInt16.toUInt32.toInt32), (nar .char ((XT.ushr a (8 : Int32)) &&& (255 : Int32)).toUInt32.toUInt16.toUInt32.toInt32)])] 9 30 236 #[.val (.int a), .val (.int b), .val (.int c), .val (.int flags), .val (.ref a1), .val (.ref a4), .val (.int b8), .val (.int b12), .val (.int b16), .val (.int b20), .val (.ref a23), .val (.ref a24), .val (.int (1 : Int32)), .val (.ref p53)] [(.int (0 : Int32))] Q_law
                refine wp_if_ne D_236 (pc'' := 243) ⟨by decide, by decide⟩ (fun h57 => by exact absurd h57 (by decide)) (fun h57 => ?_)
                refine wp_iconst 1 D_239 (by decide) ?_
                refine wp_goto D_240 (pc'' := 244) ⟨by decide, by decide⟩ ?_
                refine wp_istore #[.val (.int a), .val (.int b), .val (.int c), .val (.int flags), .val (.ref a1), .val (.ref a4), .val (.int b8), .val (.int b12), .val (.int b16), .val (.int b20), .val (.ref a23), .val (.ref a24), .val (.int (1 : Int32)), .val (.ref p53)] D_244 rfl ?_
                refine wp_iload D_246 rfl ?_
                refine wp_if_eq D_248 (pc'' := 265) ⟨by decide, by decide⟩ (fun h58 => by exact absurd h58 (by decide)) (fun h58 => ?_)
                refine wp_aload D_251 rfl rfl ?_
                refine Wp.pick [1, 0, 2, 3, 4, 5, 6, 7, 8] (by decide) ?_
                show Wp none l Z "com/example/dalles/dalles/schema/PostgreSqlColumnIsIdentityPinLaw" "law" code maxLocals ret room_1 [(a24, oI "com/example/dalles/dalles/schema/PostgreSqlColumn" sg_2 [(.ref b47), (.ref aE), (.ref a1), (.ref a4), (.int c), (.ref a23), (.int b48)]), (p53, oI "com/example/dalles/dalles/schema/PostgreSqlColumn" sg_2 [(.ref d54), (.ref aE), (.ref a1), (.ref a4), (.int c), (.null), (.int g55)]), (a23, oI "com/example/dalles/dalles/schema/Sequence" sg_1 [(.ref a4), (.ref a1)]), (b6, oA .byte [(nar .byte (nar .char (b &&& (255 : Int32)).toUInt32.toUInt16.toUInt32.toInt32).toInt8.toInt32)]), (a4, oI "java/lang/String" sgStr [(.ref b6), (.int (0 : Int32))]), (a5, oA .char [(nar .char (b &&& (255 : Int32)).toUInt32.toUInt16.toUInt32.toInt32)]), (b3, oA .byte [(nar .byte (nar .char (a &&& (255 : Int32)).toUInt32.toUInt16.toUInt32.toInt32).toInt8.toInt32), (nar .byte (nar .char ((XT.ushr a (8 : Int32)) &&& (255 : Int32)).toUInt32.toUInt16.toUInt32.toInt32).toInt8.toInt32)]), (a1, oI "java/lang/String" sgStr [(.ref b3), (.int (0 : Int32))]), (a2, oA .char [(nar .char (a &&& (255 : Int32)).toUInt32.toUInt16.toUInt32.toInt32), (nar .char ((XT.ushr a (8 : Int32)) &&& (255 : Int32)).toUInt32.toUInt16.toUInt32.toInt32)])] 9 30 253 #[.val (.int a), .val (.int b), .val (.int c), .val (.int flags), .val (.ref a1), .val (.ref a4), .val (.int b8), .val (.int b12), .val (.int b16), .val (.int b20), .val (.ref a23), .val (.ref a24), .val (.int (1 : Int32)), .val (.ref p53)] [(.ref a24)] Q_law
                refine wp_virtual (c_id1 l Z a0 hw a23 a24 b47 a1 a4 c b48 aE [(p53, oI "com/example/dalles/dalles/schema/PostgreSqlColumn" sg_2 [(.ref d54), (.ref aE), (.ref a1), (.ref a4), (.int c), (.null), (.int g55)]), (a23, oI "com/example/dalles/dalles/schema/Sequence" sg_1 [(.ref a4), (.ref a1)]), (b6, oA .byte [(nar .byte (nar .char (b &&& (255 : Int32)).toUInt32.toUInt16.toUInt32.toInt32).toInt8.toInt32)]), (a4, oI "java/lang/String" sgStr [(.ref b6), (.int (0 : Int32))]), (a5, oA .char [(nar .char (b &&& (255 : Int32)).toUInt32.toUInt16.toUInt32.toInt32)]), (b3, oA .byte [(nar .byte (nar .char (a &&& (255 : Int32)).toUInt32.toUInt16.toUInt32.toInt32).toInt8.toInt32), (nar .byte (nar .char ((XT.ushr a (8 : Int32)) &&& (255 : Int32)).toUInt32.toUInt16.toUInt32.toInt32).toInt8.toInt32)]), (a1, oI "java/lang/String" sgStr [(.ref b3), (.int (0 : Int32))]), (a2, oA .char [(nar .char (a &&& (255 : Int32)).toUInt32.toUInt16.toUInt32.toInt32), (nar .char ((XT.ushr a (8 : Int32)) &&& (255 : Int32)).toUInt32.toUInt16.toUInt32.toInt32)])]) (exa_new (i := 0) rfl) D_253 (hw _ (List.mem_of_getElem? (i := 66) rfl)) (hw _ (List.mem_of_getElem? (i := 67) rfl)) (hw _ (List.mem_of_getElem? (i := 69) rfl)) (hw _ (List.mem_of_getElem? (i := 69) rfl)) (hw _ (List.mem_of_getElem? (i := 68) rfl)) (hw _ (List.mem_of_getElem? (i := 43) rfl)) (hw _ (List.mem_of_getElem? (i := 70) rfl)) (by decide) pd_11 rfl rfl rfl (Nat.le_of_ble_eq_true rfl) (Nat.le_of_ble_eq_true rfl) (Nat.le_of_ble_eq_true rfl) (Nat.le_of_ble_eq_true rfl) ?_
                rintro _ _ ⟨rfl, rfl⟩
                show Wp none l Z "com/example/dalles/dalles/schema/PostgreSqlColumnIsIdentityPinLaw" "law" code maxLocals ret room_1 [(a24, oI "com/example/dalles/dalles/schema/PostgreSqlColumn" sg_2 [(.ref b47), (.ref aE), (.ref a1), (.ref a4), (.int c), (.ref a23), (.int b48)]), (p53, oI "com/example/dalles/dalles/schema/PostgreSqlColumn" sg_2 [(.ref d54), (.ref aE), (.ref a1), (.ref a4), (.int c), (.null), (.int g55)]), (a23, oI "com/example/dalles/dalles/schema/Sequence" sg_1 [(.ref a4), (.ref a1)]), (b6, oA .byte [(nar .byte (nar .char (b &&& (255 : Int32)).toUInt32.toUInt16.toUInt32.toInt32).toInt8.toInt32)]), (a4, oI "java/lang/String" sgStr [(.ref b6), (.int (0 : Int32))]), (a5, oA .char [(nar .char (b &&& (255 : Int32)).toUInt32.toUInt16.toUInt32.toInt32)]), (b3, oA .byte [(nar .byte (nar .char (a &&& (255 : Int32)).toUInt32.toUInt16.toUInt32.toInt32).toInt8.toInt32), (nar .byte (nar .char ((XT.ushr a (8 : Int32)) &&& (255 : Int32)).toUInt32.toUInt16.toUInt32.toInt32).toInt8.toInt32)]), (a1, oI "java/lang/String" sgStr [(.ref b3), (.int (0 : Int32))]), (a2, oA .char [(nar .char (a &&& (255 : Int32)).toUInt32.toUInt16.toUInt32.toInt32), (nar .char ((XT.ushr a (8 : Int32)) &&& (255 : Int32)).toUInt32.toUInt16.toUInt32.toInt32)])] 9 30 256 #[.val (.int a), .val (.int b), .val (.int c), .val (.int flags), .val (.ref a1), .val (.ref a4), .val (.int b8), .val (.int b12), .val (.int b16), .val (.int b20), .val (.ref a23), .val (.ref a24), .val (.int (1 : Int32)), .val (.ref p53)] [(.int (1 : Int32))] Q_law
                refine wp_iload D_256 rfl ?_
                refine wp_icmp_ne D_258 (pc'' := 265) ⟨by decide, by decide⟩ (fun h59 => by exfalso; (simp only [Int32.lt_iff_toInt_lt, Int32.le_iff_toInt_le, ← Int32.toInt_inj, Int32.reduceToInt, Int64.lt_iff_toInt_lt, ← Int64.toInt_inj, Int64.reduceToInt] at *; omega)) (fun h59 => ?_)
                refine wp_iconst 1 D_261 (by decide) ?_
                refine wp_goto D_262 (pc'' := 266) ⟨by decide, by decide⟩ ?_
                refine wp_istore #[.val (.int a), .val (.int b), .val (.int c), .val (.int flags), .val (.ref a1), .val (.ref a4), .val (.int b8), .val (.int b12), .val (.int b16), .val (.int b20), .val (.ref a23), .val (.ref a24), .val (.int (1 : Int32)), .val (.ref p53)] D_266 rfl ?_
                refine wp_iload D_268 rfl ?_
                refine wp_ireturnN D_270 rfl (by simp) (by decide) (by decide) ?_
                exact rfl
              refine wp_if_eq D_180 (pc'' := 195) ⟨by decide, by decide⟩ (fun h46 => ?_) (fun h46 => ?_)
              · skip
                exact (J50 b27 b28 (Or.inl ⟨h46, rfl, rfl⟩))
              · skip
                refine wp_aload D_183 rfl rfl ?_
                refine wp_iload_n D_185 rfl ?_
                refine wp_bipush 16 D_186 (by decide) ?_
                refine wp_iand D_188 ?_
                refine wp_callS (c_pick l Z a0 hw (flags &&& (16 : Int32)) aN aR [(a24, oI "com/example/dalles/dalles/schema/PostgreSqlColumn" sg_2 [(.ref b27), (.ref aE), (.ref a1), (.ref a4), (.int c), (.ref a23), (.int b28)]), (a23, oI "com/example/dalles/dalles/schema/Sequence" sg_1 [(.ref a4), (.ref a1)]), (b6, oA .byte [(nar .byte (nar .char (b &&& (255 : Int32)).toUInt32.toUInt16.toUInt32.toInt32).toInt8.toInt32)]), (a4, oI "java/lang/String" sgStr [(.ref b6), (.int (0 : Int32))]), (a5, oA .char [(nar .char (b &&& (255 : Int32)).toUInt32.toUInt16.toUInt32.toInt32)]), (b3, oA .byte [(nar .byte (nar .char (a &&& (255 : Int32)).toUInt32.toUInt16.toUInt32.toInt32).toInt8.toInt32), (nar .byte (nar .char ((XT.ushr a (8 : Int32)) &&& (255 : Int32)).toUInt32.toUInt16.toUInt32.toInt32).toInt8.toInt32)]), (a1, oI "java/lang/String" sgStr [(.ref b3), (.int (0 : Int32))]), (a2, oA .char [(nar .char (a &&& (255 : Int32)).toUInt32.toUInt16.toUInt32.toInt32), (nar .char ((XT.ushr a (8 : Int32)) &&& (255 : Int32)).toUInt32.toUInt16.toUInt32.toInt32)])] S_N S_R) D_189 (hw _ (List.mem_of_getElem? (i := 73) rfl)) (hw _ (List.mem_of_getElem? (i := 74) rfl)) (hw _ (List.mem_of_getElem? (i := 75) rfl)) (hw _ (List.mem_of_getElem? (i := 76) rfl)) (by decide) pd_12 rfl rfl rfl (Nat.le_of_ble_eq_true rfl) (Nat.le_of_ble_eq_true rfl) (Nat.le_of_ble_eq_true rfl) (Nat.le_of_ble_eq_true rfl) ?_
                rintro _ _ ⟨rfl, rfl⟩
                show Wp none l Z "com/example/dalles/dalles/schema/PostgreSqlColumnIsIdentityPinLaw" "law" code maxLocals ret room_1 [(a24, oI "com/example/dalles/dalles/schema/PostgreSqlColumn" sg_2 [(.ref b27), (.ref aE), (.ref a1), (.ref a4), (.int c), (.ref a23), (.int b28)]), (a23, oI "com/example/dalles/dalles/schema/Sequence" sg_1 [(.ref a4), (.ref a1)]), (b6, oA .byte [(nar .byte (nar .char (b &&& (255 : Int32)).toUInt32.toUInt16.toUInt32.toInt32).toInt8.toInt32)]), (a4, oI "java/lang/String" sgStr [(.ref b6), (.int (0 : Int32))]), (a5, oA .char [(nar .char (b &&& (255 : Int32)).toUInt32.toUInt16.toUInt32.toInt32)]), (b3, oA .byte [(nar .byte (nar .char (a &&& (255 : Int32)).toUInt32.toUInt16.toUInt32.toInt32).toInt8.toInt32), (nar .byte (nar .char ((XT.ushr a (8 : Int32)) &&& (255 : Int32)).toUInt32.toUInt16.toUInt32.toInt32).toInt8.toInt32)]), (a1, oI "java/lang/String" sgStr [(.ref b3), (.int (0 : Int32))]), (a2, oA .char [(nar .char (a &&& (255 : Int32)).toUInt32.toUInt16.toUInt32.toInt32), (nar .char ((XT.ushr a (8 : Int32)) &&& (255 : Int32)).toUInt32.toUInt16.toUInt32.toInt32)])] 8 23 192 #[.val (.int a), .val (.int b), .val (.int c), .val (.int flags), .val (.ref a1), .val (.ref a4), .val (.int b8), .val (.int b12), .val (.int b16), .val (.int b20), .val (.ref a23), .val (.ref a24), .val (.int (1 : Int32)), .unset] [(.ref (pk aN aR (flags &&& (16 : Int32)))), (.ref a24)] Q_law
                refine wp_virtual (c_set l Z a0 hw (pk aN aR (flags &&& (16 : Int32))) a24 b27 a1 a4 c b28 (.ref a23) aE [(a23, oI "com/example/dalles/dalles/schema/Sequence" sg_1 [(.ref a4), (.ref a1)]), (b6, oA .byte [(nar .byte (nar .char (b &&& (255 : Int32)).toUInt32.toUInt16.toUInt32.toInt32).toInt8.toInt32)]), (a4, oI "java/lang/String" sgStr [(.ref b6), (.int (0 : Int32))]), (a5, oA .char [(nar .char (b &&& (255 : Int32)).toUInt32.toUInt16.toUInt32.toInt32)]), (b3, oA .byte [(nar .byte (nar .char (a &&& (255 : Int32)).toUInt32.toUInt16.toUInt32.toInt32).toInt8.toInt32), (nar .byte (nar .char ((XT.ushr a (8 : Int32)) &&& (255 : Int32)).toUInt32.toUInt16.toUInt32.toInt32).toInt8.toInt32)]), (a1, oI "java/lang/String" sgStr [(.ref b3), (.int (0 : Int32))]), (a2, oA .char [(nar .char (a &&& (255 : Int32)).toUInt32.toUInt16.toUInt32.toInt32), (nar .char ((XT.ushr a (8 : Int32)) &&& (255 : Int32)).toUInt32.toUInt16.toUInt32.toInt32)])]) (exa_new (i := 0) rfl) D_192 (hw _ (List.mem_of_getElem? (i := 78) rfl)) (hw _ (List.mem_of_getElem? (i := 79) rfl)) (hw _ (List.mem_of_getElem? (i := 81) rfl)) (hw _ (List.mem_of_getElem? (i := 81) rfl)) (hw _ (List.mem_of_getElem? (i := 80) rfl)) (hw _ (List.mem_of_getElem? (i := 43) rfl)) (hw _ (List.mem_of_getElem? (i := 82) rfl)) (by decide) pd_8 rfl rfl rfl (Nat.le_of_ble_eq_true rfl) (Nat.le_of_ble_eq_true rfl) (Nat.le_of_ble_eq_true rfl) (Nat.le_of_ble_eq_true rfl) ?_
                rintro _ _ ⟨rfl, rfl⟩
                show Wp none l Z "com/example/dalles/dalles/schema/PostgreSqlColumnIsIdentityPinLaw" "law" code maxLocals ret room_1 [(a24, oI "com/example/dalles/dalles/schema/PostgreSqlColumn" sg_2 [(.ref (pk aN aR (flags &&& (16 : Int32)))), (.ref aE), (.ref a1), (.ref a4), (.int c), (.ref a23), (.int (1 : Int32))]), (a23, oI "com/example/dalles/dalles/schema/Sequence" sg_1 [(.ref a4), (.ref a1)]), (b6, oA .byte [(nar .byte (nar .char (b &&& (255 : Int32)).toUInt32.toUInt16.toUInt32.toInt32).toInt8.toInt32)]), (a4, oI "java/lang/String" sgStr [(.ref b6), (.int (0 : Int32))]), (a5, oA .char [(nar .char (b &&& (255 : Int32)).toUInt32.toUInt16.toUInt32.toInt32)]), (b3, oA .byte [(nar .byte (nar .char (a &&& (255 : Int32)).toUInt32.toUInt16.toUInt32.toInt32).toInt8.toInt32), (nar .byte (nar .char ((XT.ushr a (8 : Int32)) &&& (255 : Int32)).toUInt32.toUInt16.toUInt32.toInt32).toInt8.toInt32)]), (a1, oI "java/lang/String" sgStr [(.ref b3), (.int (0 : Int32))]), (a2, oA .char [(nar .char (a &&& (255 : Int32)).toUInt32.toUInt16.toUInt32.toInt32), (nar .char ((XT.ushr a (8 : Int32)) &&& (255 : Int32)).toUInt32.toUInt16.toUInt32.toInt32)])] 8 23 195 #[.val (.int a), .val (.int b), .val (.int c), .val (.int flags), .val (.ref a1), .val (.ref a4), .val (.int b8), .val (.int b12), .val (.int b16), .val (.int b20), .val (.ref a23), .val (.ref a24), .val (.int (1 : Int32)), .unset] [] Q_law
                exact (J50 (pk aN aR (flags &&& (16 : Int32))) (1 : Int32) (Or.inr ⟨h46, rfl, rfl⟩))
          refine wp_if_eq D_152 (pc'' := 166) ⟨by decide, by decide⟩ (fun h26 => ?_) (fun h26 => ?_)
          · skip
            exact (J30 aN (0 : Int32) (Or.inl ⟨h26, rfl, rfl⟩))
          · skip
            refine wp_aload D_155 rfl rfl ?_
            refine wp_iload_n D_157 rfl ?_
            refine wp_iconst 2 D_158 (by decide) ?_
            refine wp_iand D_159 ?_
            refine wp_callS (c_pick l Z a0 hw (flags &&& (2 : Int32)) aN aR [(a24, oI "com/example/dalles/dalles/schema/PostgreSqlColumn" sg_2 [(.ref aN), (.ref aE), (.ref a1), (.ref a4), (.int c), (.null), (.int (0 : Int32))]), (a23, oI "com/example/dalles/dalles/schema/Sequence" sg_1 [(.ref a4), (.ref a1)]), (b6, oA .byte [(nar .byte (nar .char (b &&& (255 : Int32)).toUInt32.toUInt16.toUInt32.toInt32).toInt8.toInt32)]), (a4, oI "java/lang/String" sgStr [(.ref b6), (.int (0 : Int32))]), (a5, oA .char [(nar .char (b &&& (255 : Int32)).toUInt32.toUInt16.toUInt32.toInt32)]), (b3, oA .byte [(nar .byte (nar .char (a &&& (255 : Int32)).toUInt32.toUInt16.toUInt32.toInt32).toInt8.toInt32), (nar .byte (nar .char ((XT.ushr a (8 : Int32)) &&& (255 : Int32)).toUInt32.toUInt16.toUInt32.toInt32).toInt8.toInt32)]), (a1, oI "java/lang/String" sgStr [(.ref b3), (.int (0 : Int32))]), (a2, oA .char [(nar .char (a &&& (255 : Int32)).toUInt32.toUInt16.toUInt32.toInt32), (nar .char ((XT.ushr a (8 : Int32)) &&& (255 : Int32)).toUInt32.toUInt16.toUInt32.toInt32)])] S_N S_R) D_160 (hw _ (List.mem_of_getElem? (i := 73) rfl)) (hw _ (List.mem_of_getElem? (i := 74) rfl)) (hw _ (List.mem_of_getElem? (i := 75) rfl)) (hw _ (List.mem_of_getElem? (i := 76) rfl)) (by decide) pd_12 rfl rfl rfl (Nat.le_of_ble_eq_true rfl) (Nat.le_of_ble_eq_true rfl) (Nat.le_of_ble_eq_true rfl) (Nat.le_of_ble_eq_true rfl) ?_
            rintro _ _ ⟨rfl, rfl⟩
            show Wp none l Z "com/example/dalles/dalles/schema/PostgreSqlColumnIsIdentityPinLaw" "law" code maxLocals ret room_1 [(a24, oI "com/example/dalles/dalles/schema/PostgreSqlColumn" sg_2 [(.ref aN), (.ref aE), (.ref a1), (.ref a4), (.int c), (.null), (.int (0 : Int32))]), (a23, oI "com/example/dalles/dalles/schema/Sequence" sg_1 [(.ref a4), (.ref a1)]), (b6, oA .byte [(nar .byte (nar .char (b &&& (255 : Int32)).toUInt32.toUInt16.toUInt32.toInt32).toInt8.toInt32)]), (a4, oI "java/lang/String" sgStr [(.ref b6), (.int (0 : Int32))]), (a5, oA .char [(nar .char (b &&& (255 : Int32)).toUInt32.toUInt16.toUInt32.toInt32)]), (b3, oA .byte [(nar .byte (nar .char (a &&& (255 : Int32)).toUInt32.toUInt16.toUInt32.toInt32).toInt8.toInt32), (nar .byte (nar .char ((XT.ushr a (8 : Int32)) &&& (255 : Int32)).toUInt32.toUInt16.toUInt32.toInt32).toInt8.toInt32)]), (a1, oI "java/lang/String" sgStr [(.ref b3), (.int (0 : Int32))]), (a2, oA .char [(nar .char (a &&& (255 : Int32)).toUInt32.toUInt16.toUInt32.toInt32), (nar .char ((XT.ushr a (8 : Int32)) &&& (255 : Int32)).toUInt32.toUInt16.toUInt32.toInt32)])] 8 23 163 #[.val (.int a), .val (.int b), .val (.int c), .val (.int flags), .val (.ref a1), .val (.ref a4), .val (.int b8), .val (.int b12), .val (.int b16), .val (.int b20), .val (.ref a23), .val (.ref a24), .val (.int (1 : Int32)), .unset] [(.ref (pk aN aR (flags &&& (2 : Int32)))), (.ref a24)] Q_law
            refine wp_virtual (c_set l Z a0 hw (pk aN aR (flags &&& (2 : Int32))) a24 aN a1 a4 c (0 : Int32) (.null) aE [(a23, oI "com/example/dalles/dalles/schema/Sequence" sg_1 [(.ref a4), (.ref a1)]), (b6, oA .byte [(nar .byte (nar .char (b &&& (255 : Int32)).toUInt32.toUInt16.toUInt32.toInt32).toInt8.toInt32)]), (a4, oI "java/lang/String" sgStr [(.ref b6), (.int (0 : Int32))]), (a5, oA .char [(nar .char (b &&& (255 : Int32)).toUInt32.toUInt16.toUInt32.toInt32)]), (b3, oA .byte [(nar .byte (nar .char (a &&& (255 : Int32)).toUInt32.toUInt16.toUInt32.toInt32).toInt8.toInt32), (nar .byte (nar .char ((XT.ushr a (8 : Int32)) &&& (255 : Int32)).toUInt32.toUInt16.toUInt32.toInt32).toInt8.toInt32)]), (a1, oI "java/lang/String" sgStr [(.ref b3), (.int (0 : Int32))]), (a2, oA .char [(nar .char (a &&& (255 : Int32)).toUInt32.toUInt16.toUInt32.toInt32), (nar .char ((XT.ushr a (8 : Int32)) &&& (255 : Int32)).toUInt32.toUInt16.toUInt32.toInt32)])]) (exa_new (i := 0) rfl) D_163 (hw _ (List.mem_of_getElem? (i := 78) rfl)) (hw _ (List.mem_of_getElem? (i := 79) rfl)) (hw _ (List.mem_of_getElem? (i := 81) rfl)) (hw _ (List.mem_of_getElem? (i := 81) rfl)) (hw _ (List.mem_of_getElem? (i := 80) rfl)) (hw _ (List.mem_of_getElem? (i := 43) rfl)) (hw _ (List.mem_of_getElem? (i := 82) rfl)) (by decide) pd_8 rfl rfl rfl (Nat.le_of_ble_eq_true rfl) (Nat.le_of_ble_eq_true rfl) (Nat.le_of_ble_eq_true rfl) (Nat.le_of_ble_eq_true rfl) ?_
            rintro _ _ ⟨rfl, rfl⟩
            show Wp none l Z "com/example/dalles/dalles/schema/PostgreSqlColumnIsIdentityPinLaw" "law" code maxLocals ret room_1 [(a24, oI "com/example/dalles/dalles/schema/PostgreSqlColumn" sg_2 [(.ref (pk aN aR (flags &&& (2 : Int32)))), (.ref aE), (.ref a1), (.ref a4), (.int c), (.null), (.int (1 : Int32))]), (a23, oI "com/example/dalles/dalles/schema/Sequence" sg_1 [(.ref a4), (.ref a1)]), (b6, oA .byte [(nar .byte (nar .char (b &&& (255 : Int32)).toUInt32.toUInt16.toUInt32.toInt32).toInt8.toInt32)]), (a4, oI "java/lang/String" sgStr [(.ref b6), (.int (0 : Int32))]), (a5, oA .char [(nar .char (b &&& (255 : Int32)).toUInt32.toUInt16.toUInt32.toInt32)]), (b3, oA .byte [(nar .byte (nar .char (a &&& (255 : Int32)).toUInt32.toUInt16.toUInt32.toInt32).toInt8.toInt32), (nar .byte (nar .char ((XT.ushr a (8 : Int32)) &&& (255 : Int32)).toUInt32.toUInt16.toUInt32.toInt32).toInt8.toInt32)]), (a1, oI "java/lang/String" sgStr [(.ref b3), (.int (0 : Int32))]), (a2, oA .char [(nar .char (a &&& (255 : Int32)).toUInt32.toUInt16.toUInt32.toInt32), (nar .char ((XT.ushr a (8 : Int32)) &&& (255 : Int32)).toUInt32.toUInt16.toUInt32.toInt32)])] 8 23 166 #[.val (.int a), .val (.int b), .val (.int c), .val (.int flags), .val (.ref a1), .val (.ref a4), .val (.int b8), .val (.int b12), .val (.int b16), .val (.int b20), .val (.ref a23), .val (.ref a24), .val (.int (1 : Int32)), .unset] [] Q_law
            exact (J30 (pk aN aR (flags &&& (2 : Int32))) (1 : Int32) (Or.inr ⟨h26, rfl, rfl⟩))
        refine wp_if_eq D_98 (pc'' := 105) ⟨by decide, by decide⟩ (fun h19 => ?_) (fun h19 => ?_)
        · skip
          refine wp_iconst 0 D_105 (by decide) ?_
          exact (J22 (0 : Int32) (Or.inl ⟨h19, rfl⟩))
        · skip
          refine wp_iconst 1 D_101 (by decide) ?_
          refine wp_goto D_102 (pc'' := 106) ⟨by decide, by decide⟩ ?_
          exact (J22 (1 : Int32) (Or.inr ⟨h19, rfl⟩))
      refine wp_if_eq D_84 (pc'' := 91) ⟨by decide, by decide⟩ (fun h15 => ?_) (fun h15 => ?_)
      · skip
        refine wp_iconst 0 D_91 (by decide) ?_
        exact (J18 (0 : Int32) (Or.inl ⟨h15, rfl⟩))
      · skip
        refine wp_iconst 1 D_87 (by decide) ?_
        refine wp_goto D_88 (pc'' := 92) ⟨by decide, by decide⟩ ?_
        exact (J18 (1 : Int32) (Or.inr ⟨h15, rfl⟩))
    refine wp_if_eq D_70 (pc'' := 77) ⟨by decide, by decide⟩ (fun h11 => ?_) (fun h11 => ?_)
    · skip
      refine wp_iconst 0 D_77 (by decide) ?_
      exact (J14 (0 : Int32) (Or.inl ⟨h11, rfl⟩))
    · skip
      refine wp_iconst 1 D_73 (by decide) ?_
      refine wp_goto D_74 (pc'' := 78) ⟨by decide, by decide⟩ ?_
      exact (J14 (1 : Int32) (Or.inr ⟨h11, rfl⟩))
  refine wp_if_eq D_57 (pc'' := 64) ⟨by decide, by decide⟩ (fun h7 => ?_) (fun h7 => ?_)
  · skip
    refine wp_iconst 0 D_64 (by decide) ?_
    exact (J10 (0 : Int32) (Or.inl ⟨h7, rfl⟩))
  · skip
    refine wp_iconst 1 D_60 (by decide) ?_
    refine wp_goto D_61 (pc'' := 65) ⟨by decide, by decide⟩ ?_
    exact (J10 (1 : Int32) (Or.inr ⟨h7, rfl⟩))
set_option maxRecDepth 65536 in
set_option maxHeartbeats 40000000 in
theorem comes_1 {Post : Tables → Env → Array Value → State → Outcome → State → Prop} (hpost : ∀ tb e args s v u, (limb_1_1.after args s (.returned v) u = true ∧ limb_1_2.after args s (.returned v) u = true ∧ True) → FrameEnd s (.returned v) u (Jvm.fieldLocs frame_1_writes args s ++ Jvm.arrayLocs frame_1_arrays args s ++ Jvm.staticLocs frame_1_statics s) 32 128 → Post tb e args s (.returned v) u) :
    ArmFor flags0 classFile x code maxLocals ret World_1 tables_1 room_1 Calls_1 rest_1 Pre_1 Post := by
  intro l hfl _ _ p e ha hc hk s m args below hf hA hF happ hP
  obtain ⟨hcalls, hrest, hpre⟩ := hP
  obtain ⟨-, -, -, hnamed, -, -, -, hat⟩ := (Spec.applies_iff hf).mp happ
  obtain ⟨hg, hn⟩ := and_e (Cond.before_iff.mp (show (Jvm.Cond.and given_1 narrow_1).before args s = true from hpre))
  obtain ⟨hcnt, hk0⟩ := and_e hg
  obtain ⟨hz0, hk1⟩ := and_e hk0
  obtain ⟨hz1, hk2⟩ := and_e hk1
  obtain ⟨hz2, hk3⟩ := and_e hk2
  have hz3 := hk3
  obtain ⟨w0, w1, w2, w3, rfl⟩ : ∃ w0 w1 w2 w3 : Value, args = #[w0, w1, w2, w3] := by
    have hs : args.size = 4 := by simpa [Cond.value, given_1] using hcnt
    obtain ⟨L⟩ := args
    match L, hs with
    | [w0, w1, w2, w3], _ => exact ⟨w0, w1, w2, w3, rfl⟩
  have hw := fun d (hd : d ∈ tables_1) => atoms_spec (ws := Jvm.Cond.code x code maxLocals ret :: tables_1) hat d (List.mem_cons_of_mem _ hd)
  have hfit : Fit s := fun {y c} hc i hi => by
    obtain ⟨ha, rfl⟩ := Array.getElem?_eq_some_iff.mp hc
    have q := List.all_eq_true.mp ((Array.all_eq_true_iff_forall_mem.mp hF) _ (Array.getElem_mem ha)) i (List.mem_range.mpr hi)
    simpa [Array.getElem?_eq_getElem hi] using q
  obtain ⟨a, e0⟩ := is_v hz0
  obtain rfl : w0 = (.int a) := Option.some.inj e0
  obtain ⟨b, e1⟩ := is_v hz1
  obtain rfl : w1 = (.int b) := Option.some.inj e1
  obtain ⟨c_, e2⟩ := is_v hz2
  obtain rfl : w2 = (.int c_) := Option.some.inj e2
  obtain ⟨flags, e3⟩ := is_v hz3
  obtain rfl : w3 = (.int flags) := Option.some.inj e3
  obtain ⟨n0, n_0⟩ := and_e hn
  have n1 := n_0
  obtain ⟨hsets, hown0⟩ := atoms_of _ (rest_1_c_eq ▸ (show rest_1_c.before _ s = true from hrest))
  obtain ⟨cp, ecp⟩ := is_v (Cond.before_iff.mp (hsets _ (List.mem_of_getElem? (i := 1) rfl)))
  have S_cp := Sta.start ecp (Or.inl (hsets _ (List.mem_of_getElem? (i := 0) rfl)))
  have hcw : Jvm.Lit.compactW.before _ s = true := hsets _ (List.mem_of_getElem? (i := 2) rfl)
  have hcp := own_nz ecp hcw
  obtain ⟨aN, S_aN, -, -⟩ := sta_of n0 (hw _ (List.mem_of_getElem? (i := 49) rfl)) (hw _ (List.mem_of_getElem? (i := 50) rfl))
  obtain ⟨aR, S_aR, -, -⟩ := sta_of n1 (hw _ (List.mem_of_getElem? (i := 49) rfl)) (hw _ (List.mem_of_getElem? (i := 104) rfl))
  obtain ⟨aE, eE⟩ := exa_v (Cond.before_iff.mp (hsets _ (List.mem_of_getElem? (i := 11) rfl)))
  have S_aE := Sta.start eE (Or.inl (hsets _ (List.mem_of_getElem? (i := 10) rfl)))
  have hm := (law_wp l s _ hw a b c_ flags cp aN aR aE S_cp hcp S_aN S_aR S_aE)
  obtain ⟨n, o, h1, h2, h3, v, L, rfl, ⟨N, -, H', -, hQ⟩, hq⟩ := Met.of_wp (y := x) (as' := [(.int a), (.int b), (.int c_), (.int flags)]) pn_15 (fun m => by first | rfl | (simp [entryFrame, mkF, argsToLocals, Value.category, maxLocals]; done)) hm tables_1 s.heap (Hp.nil s) p e ha hc hk s m _ below hf ((Spec.applies_iff_loose hf).mp happ).1 ⟨rfl, State.Warmed39.refl s, rfl⟩ trivial
  obtain rfl : v = some (.int 1) := hQ
  refine ⟨n, _, h1, h2, h3, hpost _ _ _ _ _ _ ⟨Cond.after_iff.mpr rfl, Cond.after_iff.mpr (eq_i res_at (Term.int_eval (1)) rfl), trivial⟩ ⟨hq.1, hq.2.1, (hq.2.2.sift fun y hy => Or.inr (N y hy)).mono (by decide) (by decide)⟩⟩
theorem main_1_1 : Claimed_1_1 := comes_1 fun _ _ _ _ _ _ h hF => ⟨h.1, hF⟩
theorem main_1_2 : Claimed_1_2 := comes_1 fun _ _ _ _ _ _ h hF => ⟨h.2.1, hF⟩
end Jvm.Pilot.@@N@@
namespace Jvm.Pilot.@@N@@
open Jvm Jvm.ClassFile Sem Op Lib Jvm.Free Jvm.Stand Jvm.Pilot.@@N@@.Jvm.D
/-! MADE BY PROGRAM (witnessworld.py) out of the Statement's table words and the real class files: 23 classes; the members and pool entries that the words name. The judged class is class 1, her method 2. -/
namespace start1
open Jvm.ClassFile
def u (s : String) : CpInfo := .utf8 (stringToUtf16 s)
/-- a pool by its gaps: so many unusable entries, then the entry; so many at the end -/
def gap : Nat → List CpInfo → List CpInfo
  | 0, r => r
  | n + 1, r => .unusable :: gap n r
def poolList (es : List (Nat × CpInfo)) (last : Nat) : List CpInfo := es.foldr (fun e r => gap e.1 (e.2 :: r)) (gap last [])
def pool (es : List (Nat × CpInfo)) (last : Nat) : Array CpInfo := ⟨poolList es last⟩
def fileOf (pool : Array CpInfo) (this : Nat) (attrs : Array Attribute := #[]) (ms : Array MethodInfo := #[]) (fl : Nat := 33) (sup : Nat := 0) (ifs : Array Nat := #[]) (fds : Array FieldInfo := #[]) : ClassFile where
  minorVersion := 0
  majorVersion := 65
  constantPool := pool
  accessFlags := fl
  thisClass := this
  superClass := sup
  interfaces := ifs
  fields := fds
  methods := ms
  attributes := attrs
def plain (name : String) (sup : Option ClassId) : Class where
  name := name
  kind := .ordinary
  loader := none
  accessFlags := 33
  super := sup
  interfaces := #[]
  cf := none
  fields := #[]
  methods := #[]
  instanceTypes := #[]
  staticTypes := #[]
  resolved := #[]
  callSites := []
  init := .initialized
  statics := none
  mirror := none

def pool0 : Array CpInfo := pool [(5, u "<init>"), (0, u "()V"), (1, .class_ 10), (1, u "java/lang/Object")] 113

def k0c0 : Code := { maxStack := 0, maxLocals := 1, code := object_method_1_code, exceptionTable := #[], attributes := #[] }
def k0m0 : Method := { name := "<init>", desc := "()V", sig := { parameters := [], returnType := none }, accessFlags := 1, code := some k0c0 }
/-- java/lang/Object -/
def k0 : Class := { plain "java/lang/Object" none with
  accessFlags := 33
  interfaces := #[]
  cf := some (fileOf pool0 8 #[] #[{ accessFlags := 1, nameIndex := 5, descriptorIndex := 6, attributes := #[] }] 33 0 #[] #[])
  fields := #[]
  methods := #[k0m0]
  instanceTypes := #[]
  staticTypes := #[]
  resolved := Array.replicate 124 none
  statics := none }

def pool1 : Array CpInfo := pool [(2, .class_ 4), (1, u "java/lang/Object"), (0, u "<init>"), (0, u "()V"), (0, .fieldref 8 9), (0, .class_ 10), (0, .nameAndType 11 12), (0, u "com/example/dalles/dalles/schema/Fill"), (0, u "RANDOM_UUID"), (0, u "Lcom/example/dalles/dalles/schema/Fill;"), (0, .fieldref 8 14), (0, .nameAndType 15 12), (0, u "NONE"), (0, .class_ 17), (0, u "java/lang/String"), (0, .methodref 16 19), (0, .nameAndType 5 20), (0, u "([C)V"), (0, .class_ 22), (0, u "com/example/dalles/dalles/schema/Sequence"), (0, .methodref 21 24), (0, .nameAndType 5 25), (0, u "(Ljava/lang/String;Ljava/lang/String;)V"), (0, .class_ 27), (0, u "com/example/dalles/dalles/schema/PostgreSqlColumn"), (0, .methodref 26 29), (0, .nameAndType 5 30), (0, u "(Ljava/lang/String;Ljava/lang/String;I)V"), (0, .methodref 26 32), (0, .nameAndType 33 34), (0, u "isIdentity"), (0, u "()Z"), (0, .methodref 36 37), (0, .class_ 38), (0, .nameAndType 39 40), (0, u "com/example/dalles/dalles/schema/PostgreSqlColumnIsIdentityPinLaw"), (0, u "pick"), (0, u "(I)Lcom/example/dalles/dalles/schema/Fill;"), (0, .methodref 26 42), (0, .nameAndType 43 44), (0, u "setDefault"), (0, u "(Lcom/example/dalles/dalles/schema/Fill;)V"), (0, .methodref 26 46), (0, .nameAndType 47 48), (0, u "makeIdentity"), (0, u "(Lcom/example/dalles/dalles/schema/Sequence;)V"), (0, .methodref 26 50), (0, .nameAndType 51 52), (0, u "copy"), (0, u "(Z)Lcom/example/dalles/dalles/schema/PostgreSqlColumn;"), (3, u "law"), (0, u "(IIII)Z")] 2

def k1m0 : Method := { name := "<init>", desc := "()V", sig := { parameters := [], returnType := none }, accessFlags := 2, code := none }
def k1c1 : Code := { maxStack := 1, maxLocals := 1, code := method_2_code, exceptionTable := #[], attributes := #[] }
def k1m1 : Method := { name := "pick", desc := "(I)Lcom/example/dalles/dalles/schema/Fill;", sig := { parameters := [.int], returnType := some (.object "com/example/dalles/dalles/schema/Fill") }, accessFlags := 10, code := some k1c1 }
def k1c2 : Code := { maxStack := 7, maxLocals := 14, code := code, exceptionTable := #[], attributes := #[] }
def k1m2 : Method := { name := "law", desc := "(IIII)Z", sig := { parameters := [.int, .int, .int, .int], returnType := some .boolean }, accessFlags := 9, code := some k1c2 }
/-- com/example/dalles/dalles/schema/PostgreSqlColumnIsIdentityPinLaw -/
def k1 : Class := { plain "com/example/dalles/dalles/schema/PostgreSqlColumnIsIdentityPinLaw" (some 0) with
  accessFlags := 49
  interfaces := #[]
  cf := some (fileOf pool1 36 #[] #[{ accessFlags := 2, nameIndex := 5, descriptorIndex := 6, attributes := #[] }, { accessFlags := 10, nameIndex := 39, descriptorIndex := 40, attributes := #[] }, { accessFlags := 9, nameIndex := 56, descriptorIndex := 57, attributes := #[] }] 49 2 #[] #[])
  fields := #[]
  methods := #[k1m0, k1m1, k1m2]
  instanceTypes := #[]
  staticTypes := #[]
  resolved := Array.replicate 60 none
  statics := none }

def pool2 : Array CpInfo := pool [(1, .class_ 2), (0, u "java/io/Serializable"), (0, .class_ 4), (0, u "java/lang/Object")] 2

/-- java/io/Serializable -/
def k2 : Class := { plain "java/io/Serializable" (some 0) with
  accessFlags := 1537
  interfaces := #[]
  cf := some (fileOf pool2 1 #[] #[] 1537 3 #[] #[])
  fields := #[]
  methods := #[]
  instanceTypes := #[]
  staticTypes := #[]
  resolved := Array.replicate 7 none
  statics := none }

def pool3 : Array CpInfo := pool [(1, .class_ 2), (0, u "java/lang/Comparable"), (0, .class_ 4), (0, u "java/lang/Object")] 7

/-- java/lang/Comparable -/
def k3 : Class := { plain "java/lang/Comparable" (some 0) with
  accessFlags := 1537
  interfaces := #[]
  cf := some (fileOf pool3 1 #[] #[] 1537 3 #[] #[])
  fields := #[]
  methods := #[]
  instanceTypes := #[]
  staticTypes := #[]
  resolved := Array.replicate 12 none
  statics := none }

def pool4 : Array CpInfo := pool [(2, .class_ 4), (1, u "java/lang/CharSequence"), (42, .class_ 48), (0, u "java/lang/CharSequence$1CodePointIterator"), (10, .class_ 60), (0, u "java/lang/CharSequence$1CharIterator"), (5, .class_ 67), (0, u "java/lang/Object")] 63

/-- java/lang/CharSequence -/
def k4 : Class := { plain "java/lang/CharSequence" (some 0) with
  accessFlags := 1537
  interfaces := #[]
  cf := some (fileOf pool4 2 #[.nestMembers #[47, 59]] #[] 1537 66 #[] #[])
  fields := #[]
  methods := #[]
  instanceTypes := #[]
  staticTypes := #[]
  resolved := Array.replicate 131 none
  statics := none }

def pool5 : Array CpInfo := pool [(1, .class_ 2), (0, u "java/lang/constant/Constable"), (0, .class_ 4), (0, u "java/lang/Object")] 6

/-- java/lang/constant/Constable -/
def k5 : Class := { plain "java/lang/constant/Constable" (some 0) with
  accessFlags := 1537
  interfaces := #[]
  cf := some (fileOf pool5 1 #[] #[] 1537 3 #[] #[])
  fields := #[]
  methods := #[]
  instanceTypes := #[]
  staticTypes := #[]
  resolved := Array.replicate 11 none
  statics := none }

def pool6 : Array CpInfo := pool [(1, .class_ 2), (0, u "java/lang/constant/ConstantDesc"), (0, .class_ 4), (0, u "java/lang/Object")] 32

/-- java/lang/constant/ConstantDesc -/
def k6 : Class := { plain "java/lang/constant/ConstantDesc" (some 0) with
  accessFlags := 1537
  interfaces := #[]
  cf := some (fileOf pool6 1 #[] #[] 1537 3 #[] #[])
  fields := #[]
  methods := #[]
  instanceTypes := #[]
  staticTypes := #[]
  resolved := Array.replicate 37 none
  statics := none }

def pool7 : Array CpInfo := pool [(1, .methodref 2 3), (0, .class_ 4), (0, .nameAndType 5 6), (0, u "java/lang/Object"), (0, u "<init>"), (0, u "()V"), (2, .fieldref 10 11), (0, .class_ 12), (0, .nameAndType 13 14), (0, u "java/lang/String"), (0, u "value"), (0, u "[B"), (0, .fieldref 10 16), (0, .nameAndType 17 18), (0, u "coder"), (0, u "B"), (2, u "hash"), (0, u "I"), (2, u "hashIsZero"), (0, u "Z"), (0, .methodref 10 28), (0, .nameAndType 5 29), (0, u "([CIILjava/lang/Void;)V"), (8, .fieldref 10 39), (0, .nameAndType 40 26), (0, u "COMPACT_STRINGS"), (1, .class_ 44), (1, u "java/lang/StringUTF16"), (0, u "compress"), (1, .methodref 42 48), (0, .nameAndType 49 50), (0, u "coderFromArrayLen"), (0, u "([BI)B"), (126, .methodref 42 178), (0, .nameAndType 45 179), (0, u "([CII)[B"), (395, .class_ 576), (0, u "java/lang/CharSequence"), (22, u "CASE_INSENSITIVE_ORDER"), (0, u "Ljava/util/Comparator;"), (409, u "([C)V"), (90, u "serialPersistentFields"), (0, u "[Ljava/io/ObjectStreamField;"), (0, .class_ 1104), (0, u "java/lang/String$CaseInsensitiveComparator"), (1, .class_ 1107), (0, u "java/io/Serializable"), (0, .class_ 1109), (0, u "java/lang/Comparable"), (0, .class_ 1111), (0, u "java/lang/constant/Constable"), (0, .class_ 1113), (0, u "java/lang/constant/ConstantDesc"), (2, u "serialVersionUID"), (0, u "J"), (3, u "REPL"), (0, u "C"), (2, u "LATIN1"), (1, u "UTF16")] 323

def k7m0 : Method := { name := "<init>", desc := "()V", sig := { parameters := [], returnType := none }, accessFlags := 1, code := none }
def k7c1 : Code := { maxStack := 5, maxLocals := 2, code := jdk_42_method_3_code, exceptionTable := #[], attributes := #[] }
def k7m1 : Method := { name := "<init>", desc := "([C)V", sig := { parameters := [(.array .char)], returnType := none }, accessFlags := 1, code := some k7c1 }
def k7c2 : Code := { maxStack := 4, maxLocals := 6, code := jdk_42_method_149_code, exceptionTable := #[], attributes := #[] }
def k7m2 : Method := { name := "<init>", desc := "([CIILjava/lang/Void;)V", sig := { parameters := [(.array .char), .int, .int, (.object "java/lang/Void")], returnType := none }, accessFlags := 2, code := some k7c2 }
/-- java/lang/String -/
def k7 : Class := { plain "java/lang/String" (some 0) with
  accessFlags := 49
  interfaces := #[2, 3, 4, 5, 6]
  cf := some (fileOf pool7 10 #[.nestMembers #[1103]] #[{ accessFlags := 1, nameIndex := 5, descriptorIndex := 6, attributes := #[] }, { accessFlags := 1, nameIndex := 5, descriptorIndex := 1010, attributes := #[] }, { accessFlags := 2, nameIndex := 5, descriptorIndex := 29, attributes := #[] }] 49 2 #[1106, 1108, 575, 1110, 1112] #[{ accessFlags := 18, nameIndex := 13, descriptorIndex := 14, attributes := #[] }, { accessFlags := 18, nameIndex := 17, descriptorIndex := 18, attributes := #[] }, { accessFlags := 2, nameIndex := 21, descriptorIndex := 22, attributes := #[] }, { accessFlags := 2, nameIndex := 25, descriptorIndex := 26, attributes := #[] }, { accessFlags := 26, nameIndex := 1116, descriptorIndex := 1117, attributes := #[] }, { accessFlags := 24, nameIndex := 40, descriptorIndex := 26, attributes := #[] }, { accessFlags := 26, nameIndex := 1101, descriptorIndex := 1102, attributes := #[] }, { accessFlags := 26, nameIndex := 1121, descriptorIndex := 1122, attributes := #[] }, { accessFlags := 25, nameIndex := 599, descriptorIndex := 600, attributes := #[] }, { accessFlags := 24, nameIndex := 1125, descriptorIndex := 18, attributes := #[] }, { accessFlags := 24, nameIndex := 1127, descriptorIndex := 18, attributes := #[] }])
  fields := #[{ name := "value", type := (.array .byte), accessFlags := 18, slot := 0, constantValue := 0 }, { name := "coder", type := .byte, accessFlags := 18, slot := 1, constantValue := 0 }, { name := "hash", type := .int, accessFlags := 2, slot := 2, constantValue := 0 }, { name := "hashIsZero", type := .boolean, accessFlags := 2, slot := 3, constantValue := 0 }, { name := "serialVersionUID", type := .long, accessFlags := 26, slot := 0, constantValue := 0 }, { name := "COMPACT_STRINGS", type := .boolean, accessFlags := 24, slot := 1, constantValue := 0 }, { name := "serialPersistentFields", type := (.array (.object "java/io/ObjectStreamField")), accessFlags := 26, slot := 2, constantValue := 0 }, { name := "REPL", type := .char, accessFlags := 26, slot := 3, constantValue := 0 }, { name := "CASE_INSENSITIVE_ORDER", type := (.object "java/util/Comparator"), accessFlags := 25, slot := 4, constantValue := 0 }, { name := "LATIN1", type := .byte, accessFlags := 24, slot := 5, constantValue := 0 }, { name := "UTF16", type := .byte, accessFlags := 24, slot := 6, constantValue := 0 }]
  methods := #[k7m0, k7m1, k7m2]
  instanceTypes := #[(.array .byte), .byte, .int, .boolean]
  staticTypes := #[.long, .boolean, (.array (.object "java/io/ObjectStreamField")), .char, (.object "java/util/Comparator"), .byte, .byte]
  resolved := Array.replicate 1451 none
  statics := some 0 }

def pool8 : Array CpInfo := pool [(6, .class_ 8), (1, u "java/lang/Object"), (0, u "<init>"), (0, u "()V"), (1, .class_ 14), (1, u "java/lang/StringUTF16"), (31, u "$assertionsDisabled"), (0, u "Z"), (13, u "HI_BYTE_SHIFT"), (0, u "I"), (2, u "LO_BYTE_SHIFT"), (49, .methodref 12 116), (0, .nameAndType 117 118), (0, u "compress"), (0, u "([CI[BII)I"), (3, u "([CII)[B"), (138, u "coderFromArrayLen"), (0, u "([BI)B"), (106, .class_ 371), (1, u "java/lang/StringUTF16$LinesSpliterator"), (58, u "MAX_LENGTH"), (196, .class_ 628), (0, u "java/lang/StringUTF16$CodePointsSpliterator"), (0, .class_ 630), (0, u "java/lang/StringUTF16$CharsSpliterator")] 4

def k8m0 : Method := { name := "<init>", desc := "()V", sig := { parameters := [], returnType := none }, accessFlags := 0, code := none }
def k8c1 : Code := { maxStack := 2, maxLocals := 2, code := jdk_52_method_15_code, exceptionTable := #[], attributes := #[] }
def k8m1 : Method := { name := "coderFromArrayLen", desc := "([BI)B", sig := { parameters := [(.array .byte), .int], returnType := some .byte }, accessFlags := 8, code := some k8c1 }
def k8c2 : Code := { maxStack := 5, maxLocals := 6, code := jdk_52_method_16_code, exceptionTable := #[], attributes := #[] }
def k8m2 : Method := { name := "compress", desc := "([CII)[B", sig := { parameters := [(.array .char), .int, .int], returnType := some (.array .byte) }, accessFlags := 9, code := some k8c2 }
def k8c3 : Code := { maxStack := 3, maxLocals := 7, code := jdk_52_method_21_code, exceptionTable := #[], attributes := #[] }
def k8m3 : Method := { name := "compress", desc := "([CI[BII)I", sig := { parameters := [(.array .char), .int, (.array .byte), .int, .int], returnType := some .int }, accessFlags := 9, code := some k8c3 }
/-- java/lang/StringUTF16 -/
def k8 : Class := { plain "java/lang/StringUTF16" (some 0) with
  accessFlags := 48
  interfaces := #[]
  cf := some (fileOf pool8 12 #[.nestMembers #[627, 629, 369]] #[{ accessFlags := 0, nameIndex := 9, descriptorIndex := 10, attributes := #[] }, { accessFlags := 8, nameIndex := 261, descriptorIndex := 262, attributes := #[] }, { accessFlags := 9, nameIndex := 117, descriptorIndex := 122, attributes := #[] }, { accessFlags := 9, nameIndex := 117, descriptorIndex := 118, attributes := #[] }] 48 6 #[] #[{ accessFlags := 26, nameIndex := 61, descriptorIndex := 62, attributes := #[] }, { accessFlags := 26, nameIndex := 65, descriptorIndex := 62, attributes := #[] }, { accessFlags := 24, nameIndex := 430, descriptorIndex := 62, attributes := #[] }, { accessFlags := 4120, nameIndex := 46, descriptorIndex := 47, attributes := #[] }])
  fields := #[{ name := "HI_BYTE_SHIFT", type := .int, accessFlags := 26, slot := 0, constantValue := 0 }, { name := "LO_BYTE_SHIFT", type := .int, accessFlags := 26, slot := 1, constantValue := 0 }, { name := "MAX_LENGTH", type := .int, accessFlags := 24, slot := 2, constantValue := 0 }, { name := "$assertionsDisabled", type := .boolean, accessFlags := 4120, slot := 3, constantValue := 0 }]
  methods := #[k8m0, k8m1, k8m2, k8m3]
  instanceTypes := #[]
  staticTypes := #[.int, .int, .int, .boolean]
  resolved := Array.replicate 635 none
  statics := none }

def pool9 : Array CpInfo := pool [(1, .methodref 2 3), (0, .class_ 4), (0, .nameAndType 5 6), (0, u "java/lang/Object"), (0, u "<init>"), (0, u "()V"), (0, .fieldref 8 9), (0, .class_ 10), (0, .nameAndType 11 12), (0, u "com/example/dalles/dalles/schema/Sequence"), (0, u "qualifiedName"), (0, u "Ljava/lang/String;"), (0, .fieldref 8 14), (0, .nameAndType 15 12), (0, u "name"), (12, u "(Ljava/lang/String;Ljava/lang/String;)V")] 10

def k9c0 : Code := { maxStack := 2, maxLocals := 3, code := prog_55_method_1_code, exceptionTable := #[], attributes := #[] }
def k9m0 : Method := { name := "<init>", desc := "(Ljava/lang/String;Ljava/lang/String;)V", sig := { parameters := [(.object "java/lang/String"), (.object "java/lang/String")], returnType := none }, accessFlags := 0, code := some k9c0 }
/-- com/example/dalles/dalles/schema/Sequence -/
def k9 : Class := { plain "com/example/dalles/dalles/schema/Sequence" (some 0) with
  accessFlags := 49
  interfaces := #[]
  cf := some (fileOf pool9 8 #[] #[{ accessFlags := 0, nameIndex := 5, descriptorIndex := 28, attributes := #[] }] 49 2 #[] #[{ accessFlags := 18, nameIndex := 11, descriptorIndex := 12, attributes := #[] }, { accessFlags := 18, nameIndex := 15, descriptorIndex := 12, attributes := #[] }])
  fields := #[{ name := "qualifiedName", type := (.object "java/lang/String"), accessFlags := 18, slot := 0, constantValue := 0 }, { name := "name", type := (.object "java/lang/String"), accessFlags := 18, slot := 1, constantValue := 0 }]
  methods := #[k9m0]
  instanceTypes := #[(.object "java/lang/String"), (.object "java/lang/String")]
  staticTypes := #[]
  resolved := Array.replicate 39 none
  statics := none }

def pool10 : Array CpInfo := pool [(1, .methodref 2 3), (0, .class_ 4), (0, .nameAndType 5 6), (0, u "java/lang/Object"), (0, u "<init>"), (0, u "()V"), (0, .fieldref 8 9), (0, .class_ 10), (0, .nameAndType 11 12), (0, u "com/example/dalles/dalles/schema/Fill"), (0, u "NONE"), (0, u "Lcom/example/dalles/dalles/schema/Fill;"), (0, .fieldref 14 15), (0, .class_ 16), (0, .nameAndType 17 12), (0, u "com/example/dalles/dalles/schema/PostgreSqlColumn"), (0, u "defaultFill"), (0, .methodref 19 20), (0, .class_ 21), (0, .nameAndType 22 23), (0, u "java/util/Optional"), (0, u "empty"), (0, u "()Ljava/util/Optional;"), (0, .fieldref 14 25), (0, .nameAndType 26 27), (0, u "highestValue"), (0, u "Ljava/util/Optional;"), (0, .fieldref 14 29), (0, .nameAndType 30 31), (0, u "name"), (0, u "Ljava/lang/String;"), (0, .fieldref 14 33), (0, .nameAndType 34 31), (0, u "type"), (0, .fieldref 14 36), (0, .nameAndType 37 38), (0, u "line"), (0, u "I"), (0, .fieldref 14 40), (0, .nameAndType 41 42), (0, u "hasDefault"), (0, u "Z"), (0, .fieldref 14 44), (0, .nameAndType 45 46), (0, u "identity"), (0, u "Lcom/example/dalles/dalles/schema/Sequence;"), (14, .methodref 14 62), (0, .nameAndType 5 63), (0, u "(Ljava/lang/String;Ljava/lang/String;I)V"), (0, .methodref 14 65), (0, .nameAndType 66 67), (0, u "inheritDefault"), (0, u "(Lcom/example/dalles/dalles/schema/PostgreSqlColumn;)V"), (0, .methodref 14 69), (0, .nameAndType 70 71), (0, u "setDefault"), (0, u "(Lcom/example/dalles/dalles/schema/Fill;)V"), (10, u "TIME_TYPES"), (0, u "Ljava/util/Set;"), (22, u "TIMESTAMP"), (1, u "TIMESTAMPTZ"), (8, u "makeIdentity"), (0, u "(Lcom/example/dalles/dalles/schema/Sequence;)V"), (0, u "isIdentity"), (0, u "()Z"), (3, u "copy"), (0, u "(Z)Lcom/example/dalles/dalles/schema/PostgreSqlColumn;")] 5

def k10c0 : Code := { maxStack := 2, maxLocals := 4, code := prog_46_method_1_code, exceptionTable := #[], attributes := #[] }
def k10m0 : Method := { name := "<init>", desc := "(Ljava/lang/String;Ljava/lang/String;I)V", sig := { parameters := [(.object "java/lang/String"), (.object "java/lang/String"), .int], returnType := none }, accessFlags := 0, code := some k10c0 }
def k10c1 : Code := { maxStack := 2, maxLocals := 2, code := prog_46_method_4_code, exceptionTable := #[], attributes := #[] }
def k10m1 : Method := { name := "setDefault", desc := "(Lcom/example/dalles/dalles/schema/Fill;)V", sig := { parameters := [(.object "com/example/dalles/dalles/schema/Fill")], returnType := none }, accessFlags := 0, code := some k10c1 }
def k10c2 : Code := { maxStack := 2, maxLocals := 2, code := prog_46_method_5_code, exceptionTable := #[], attributes := #[] }
def k10m2 : Method := { name := "makeIdentity", desc := "(Lcom/example/dalles/dalles/schema/Sequence;)V", sig := { parameters := [(.object "com/example/dalles/dalles/schema/Sequence")], returnType := none }, accessFlags := 0, code := some k10c2 }
def k10c3 : Code := { maxStack := 1, maxLocals := 1, code := prog_46_method_6_code, exceptionTable := #[], attributes := #[] }
def k10m3 : Method := { name := "isIdentity", desc := "()Z", sig := { parameters := [], returnType := some .boolean }, accessFlags := 0, code := some k10c3 }
def k10c4 : Code := { maxStack := 5, maxLocals := 3, code := prog_46_method_9_code, exceptionTable := #[], attributes := #[] }
def k10m4 : Method := { name := "copy", desc := "(Z)Lcom/example/dalles/dalles/schema/PostgreSqlColumn;", sig := { parameters := [.boolean], returnType := some (.object "com/example/dalles/dalles/schema/PostgreSqlColumn") }, accessFlags := 0, code := some k10c4 }
def k10c5 : Code := { maxStack := 2, maxLocals := 2, code := prog_46_method_10_code, exceptionTable := #[], attributes := #[] }
def k10m5 : Method := { name := "inheritDefault", desc := "(Lcom/example/dalles/dalles/schema/PostgreSqlColumn;)V", sig := { parameters := [(.object "com/example/dalles/dalles/schema/PostgreSqlColumn")], returnType := none }, accessFlags := 0, code := some k10c5 }
/-- com/example/dalles/dalles/schema/PostgreSqlColumn -/
def k10 : Class := { plain "com/example/dalles/dalles/schema/PostgreSqlColumn" (some 0) with
  accessFlags := 48
  interfaces := #[]
  cf := some (fileOf pool10 14 #[] #[{ accessFlags := 0, nameIndex := 5, descriptorIndex := 63, attributes := #[] }, { accessFlags := 0, nameIndex := 70, descriptorIndex := 71, attributes := #[] }, { accessFlags := 0, nameIndex := 117, descriptorIndex := 118, attributes := #[] }, { accessFlags := 0, nameIndex := 119, descriptorIndex := 120, attributes := #[] }, { accessFlags := 0, nameIndex := 124, descriptorIndex := 125, attributes := #[] }, { accessFlags := 0, nameIndex := 66, descriptorIndex := 67, attributes := #[] }] 48 2 #[] #[{ accessFlags := 24, nameIndex := 106, descriptorIndex := 31, attributes := #[] }, { accessFlags := 24, nameIndex := 108, descriptorIndex := 31, attributes := #[] }, { accessFlags := 26, nameIndex := 82, descriptorIndex := 83, attributes := #[] }, { accessFlags := 18, nameIndex := 30, descriptorIndex := 31, attributes := #[] }, { accessFlags := 18, nameIndex := 34, descriptorIndex := 31, attributes := #[] }, { accessFlags := 18, nameIndex := 37, descriptorIndex := 38, attributes := #[] }, { accessFlags := 2, nameIndex := 41, descriptorIndex := 42, attributes := #[] }, { accessFlags := 2, nameIndex := 17, descriptorIndex := 12, attributes := #[] }, { accessFlags := 2, nameIndex := 45, descriptorIndex := 46, attributes := #[] }, { accessFlags := 2, nameIndex := 26, descriptorIndex := 27, attributes := #[] }])
  fields := #[{ name := "TIMESTAMP", type := (.object "java/lang/String"), accessFlags := 24, slot := 0, constantValue := 0 }, { name := "TIMESTAMPTZ", type := (.object "java/lang/String"), accessFlags := 24, slot := 1, constantValue := 0 }, { name := "TIME_TYPES", type := (.object "java/util/Set"), accessFlags := 26, slot := 2, constantValue := 0 }, { name := "name", type := (.object "java/lang/String"), accessFlags := 18, slot := 0, constantValue := 0 }, { name := "type", type := (.object "java/lang/String"), accessFlags := 18, slot := 1, constantValue := 0 }, { name := "line", type := .int, accessFlags := 18, slot := 2, constantValue := 0 }, { name := "hasDefault", type := .boolean, accessFlags := 2, slot := 3, constantValue := 0 }, { name := "defaultFill", type := (.object "com/example/dalles/dalles/schema/Fill"), accessFlags := 2, slot := 4, constantValue := 0 }, { name := "identity", type := (.object "com/example/dalles/dalles/schema/Sequence"), accessFlags := 2, slot := 5, constantValue := 0 }, { name := "highestValue", type := (.object "java/util/Optional"), accessFlags := 2, slot := 6, constantValue := 0 }]
  methods := #[k10m0, k10m1, k10m2, k10m3, k10m4, k10m5]
  instanceTypes := #[(.object "java/lang/String"), (.object "java/lang/String"), .int, .boolean, (.object "com/example/dalles/dalles/schema/Fill"), (.object "com/example/dalles/dalles/schema/Sequence"), (.object "java/util/Optional")]
  staticTypes := #[(.object "java/lang/String"), (.object "java/lang/String"), (.object "java/util/Set")]
  resolved := Array.replicate 131 none
  statics := none }

def pool11 : Array CpInfo := pool [(2, .class_ 4), (1, u "java/lang/Object"), (3, .class_ 10), (1, u "com/example/dalles/dalles/schema/Fill"), (0, u "sequence"), (0, u "Lcom/example/dalles/dalles/schema/Sequence;"), (2, u "randomUuid"), (0, u "Z"), (19, u "NONE"), (0, u "Lcom/example/dalles/dalles/schema/Fill;"), (2, u "RANDOM_UUID")] 13

/-- com/example/dalles/dalles/schema/Fill -/
def k11 : Class := { plain "com/example/dalles/dalles/schema/Fill" (some 0) with
  accessFlags := 49
  interfaces := #[]
  cf := some (fileOf pool11 8 #[] #[] 49 2 #[] #[{ accessFlags := 25, nameIndex := 36, descriptorIndex := 37, attributes := #[] }, { accessFlags := 25, nameIndex := 40, descriptorIndex := 37, attributes := #[] }, { accessFlags := 18, nameIndex := 11, descriptorIndex := 12, attributes := #[] }, { accessFlags := 18, nameIndex := 15, descriptorIndex := 16, attributes := #[] }])
  fields := #[{ name := "NONE", type := (.object "com/example/dalles/dalles/schema/Fill"), accessFlags := 25, slot := 0, constantValue := 0 }, { name := "RANDOM_UUID", type := (.object "com/example/dalles/dalles/schema/Fill"), accessFlags := 25, slot := 1, constantValue := 0 }, { name := "sequence", type := (.object "com/example/dalles/dalles/schema/Sequence"), accessFlags := 18, slot := 0, constantValue := 0 }, { name := "randomUuid", type := .boolean, accessFlags := 18, slot := 1, constantValue := 0 }]
  methods := #[]
  instanceTypes := #[(.object "com/example/dalles/dalles/schema/Sequence"), .boolean]
  staticTypes := #[(.object "com/example/dalles/dalles/schema/Fill"), (.object "com/example/dalles/dalles/schema/Fill")]
  resolved := Array.replicate 54 none
  statics := some 1 }

def pool12 : Array CpInfo := pool [(1, .fieldref 2 3), (0, .class_ 4), (0, .nameAndType 5 6), (0, u "java/util/Optional"), (0, u "EMPTY"), (0, u "Ljava/util/Optional;"), (1, .class_ 10), (1, u "java/lang/Object"), (4, u "value"), (0, u "Ljava/lang/Object;"), (38, u "empty"), (0, u "()Ljava/util/Optional;")] 130

def k12c0 : Code := { maxStack := 1, maxLocals := 1, code := jdk_32_method_1_code, exceptionTable := #[], attributes := #[] }
def k12m0 : Method := { name := "empty", desc := "()Ljava/util/Optional;", sig := { parameters := [], returnType := some (.object "java/util/Optional") }, accessFlags := 9, code := some k12c0 }
/-- java/util/Optional -/
def k12 : Class := { plain "java/util/Optional" (some 0) with
  accessFlags := 49
  interfaces := #[]
  cf := some (fileOf pool12 2 #[] #[{ accessFlags := 9, nameIndex := 55, descriptorIndex := 56, attributes := #[] }] 49 8 #[] #[{ accessFlags := 26, nameIndex := 5, descriptorIndex := 6, attributes := #[] }, { accessFlags := 18, nameIndex := 15, descriptorIndex := 16, attributes := #[] }])
  fields := #[{ name := "EMPTY", type := (.object "java/util/Optional"), accessFlags := 26, slot := 0, constantValue := 0 }, { name := "value", type := (.object "java/lang/Object"), accessFlags := 18, slot := 0, constantValue := 0 }]
  methods := #[k12m0]
  instanceTypes := #[(.object "java/lang/Object")]
  staticTypes := #[(.object "java/util/Optional")]
  resolved := Array.replicate 187 none
  statics := some 2 }

def pool13 : Array CpInfo := pool [(4, .class_ 6), (1, u "java/lang/Object"), (0, u "<init>"), (0, u "()V"), (5, .class_ 16), (1, u "java/lang/StringLatin1"), (104, u "$assertionsDisabled"), (0, u "Z"), (98, .class_ 223), (1, u "java/lang/StringLatin1$LinesSpliterator"), (166, .class_ 391), (0, u "java/lang/StringLatin1$CharsSpliterator")] 3

def k13m0 : Method := { name := "<init>", desc := "()V", sig := { parameters := [], returnType := none }, accessFlags := 0, code := none }
/-- java/lang/StringLatin1 -/
def k13 : Class := { plain "java/lang/StringLatin1" (some 0) with
  accessFlags := 48
  interfaces := #[]
  cf := some (fileOf pool13 14 #[.nestMembers #[390, 221]] #[{ accessFlags := 0, nameIndex := 7, descriptorIndex := 8, attributes := #[] }] 48 4 #[] #[{ accessFlags := 4120, nameIndex := 121, descriptorIndex := 122, attributes := #[] }])
  fields := #[{ name := "$assertionsDisabled", type := .boolean, accessFlags := 4120, slot := 0, constantValue := 0 }]
  methods := #[k13m0]
  instanceTypes := #[]
  staticTypes := #[.boolean]
  resolved := Array.replicate 395 none
  statics := none }

def pool14 : Array CpInfo := pool [(2, .class_ 4), (1, u "java/lang/Object"), (0, u "<init>"), (0, u "()V"), (17, .class_ 26), (1, u "jdk/internal/util/Preconditions"), (28, .class_ 56), (0, u "jdk/internal/util/Preconditions$4"), (57, .class_ 115), (0, u "jdk/internal/util/Preconditions$1"), (7, u "SIOOBE_FORMATTER"), (0, u "Ljava/util/function/BiFunction;"), (0, .class_ 126), (0, u "jdk/internal/util/Preconditions$2"), (3, u "AIOOBE_FORMATTER"), (0, .class_ 132), (0, u "jdk/internal/util/Preconditions$3"), (3, u "IOOBE_FORMATTER")] 57

def k14m0 : Method := { name := "<init>", desc := "()V", sig := { parameters := [], returnType := none }, accessFlags := 1, code := none }
/-- jdk/internal/util/Preconditions -/
def k14 : Class := { plain "jdk/internal/util/Preconditions" (some 0) with
  accessFlags := 33
  interfaces := #[]
  cf := some (fileOf pool14 24 #[.nestMembers #[55, 131, 125, 114]] #[{ accessFlags := 1, nameIndex := 5, descriptorIndex := 6, attributes := #[] }] 33 2 #[] #[{ accessFlags := 25, nameIndex := 123, descriptorIndex := 124, attributes := #[] }, { accessFlags := 25, nameIndex := 130, descriptorIndex := 124, attributes := #[] }, { accessFlags := 25, nameIndex := 136, descriptorIndex := 124, attributes := #[] }])
  fields := #[{ name := "SIOOBE_FORMATTER", type := (.object "java/util/function/BiFunction"), accessFlags := 25, slot := 0, constantValue := 0 }, { name := "AIOOBE_FORMATTER", type := (.object "java/util/function/BiFunction"), accessFlags := 25, slot := 1, constantValue := 0 }, { name := "IOOBE_FORMATTER", type := (.object "java/util/function/BiFunction"), accessFlags := 25, slot := 2, constantValue := 0 }]
  methods := #[k14m0]
  instanceTypes := #[]
  staticTypes := #[(.object "java/util/function/BiFunction"), (.object "java/util/function/BiFunction"), (.object "java/util/function/BiFunction")]
  resolved := Array.replicate 194 none
  statics := some 3 }

def pool15 : Array CpInfo := pool [(9, u "<init>"), (6, .class_ 18), (1, u "java/lang/Object"), (0, u "()V"), (1, .class_ 23), (1, u "jdk/internal/util/ArraysSupport"), (0, u "LOG2_ARRAY_LONG_INDEX_SCALE"), (0, u "I"), (2, u "U"), (0, u "Ljdk/internal/misc/Unsafe;"), (8, u "BIG_ENDIAN"), (0, u "Z"), (8, u "LOG2_BYTE_BIT_SIZE"), (4, u "LOG2_ARRAY_INT_INDEX_SCALE"), (54, u "JLA"), (0, u "Ljdk/internal/access/JavaLangAccess;"), (11, u "LOG2_ARRAY_BOOLEAN_INDEX_SCALE"), (9, u "LOG2_ARRAY_BYTE_INDEX_SCALE"), (5, u "LOG2_ARRAY_CHAR_INDEX_SCALE"), (5, u "LOG2_ARRAY_SHORT_INDEX_SCALE"), (18, u "LOG2_ARRAY_FLOAT_INDEX_SCALE"), (24, u "LOG2_ARRAY_DOUBLE_INDEX_SCALE"), (89, u "T_BOOLEAN"), (2, u "T_CHAR"), (1, u "T_FLOAT"), (1, u "T_DOUBLE"), (1, u "T_BYTE"), (1, u "T_SHORT"), (1, u "T_INT"), (1, u "T_LONG"), (1, u "SOFT_MAX_ARRAY_LENGTH")] 83

def k15m0 : Method := { name := "<init>", desc := "()V", sig := { parameters := [], returnType := none }, accessFlags := 2, code := none }
/-- jdk/internal/util/ArraysSupport -/
def k15 : Class := { plain "jdk/internal/util/ArraysSupport" (some 0) with
  accessFlags := 33
  interfaces := #[]
  cf := some (fileOf pool15 21 #[] #[{ accessFlags := 2, nameIndex := 9, descriptorIndex := 19, attributes := #[] }] 33 16 #[] #[{ accessFlags := 24, nameIndex := 28, descriptorIndex := 29, attributes := #[] }, { accessFlags := 26, nameIndex := 38, descriptorIndex := 39, attributes := #[] }, { accessFlags := 25, nameIndex := 121, descriptorIndex := 25, attributes := #[] }, { accessFlags := 25, nameIndex := 131, descriptorIndex := 25, attributes := #[] }, { accessFlags := 25, nameIndex := 137, descriptorIndex := 25, attributes := #[] }, { accessFlags := 25, nameIndex := 143, descriptorIndex := 25, attributes := #[] }, { accessFlags := 25, nameIndex := 53, descriptorIndex := 25, attributes := #[] }, { accessFlags := 25, nameIndex := 24, descriptorIndex := 25, attributes := #[] }, { accessFlags := 25, nameIndex := 162, descriptorIndex := 25, attributes := #[] }, { accessFlags := 25, nameIndex := 187, descriptorIndex := 25, attributes := #[] }, { accessFlags := 26, nameIndex := 48, descriptorIndex := 25, attributes := #[] }, { accessFlags := 25, nameIndex := 277, descriptorIndex := 25, attributes := #[] }, { accessFlags := 25, nameIndex := 280, descriptorIndex := 25, attributes := #[] }, { accessFlags := 25, nameIndex := 282, descriptorIndex := 25, attributes := #[] }, { accessFlags := 25, nameIndex := 284, descriptorIndex := 25, attributes := #[] }, { accessFlags := 25, nameIndex := 286, descriptorIndex := 25, attributes := #[] }, { accessFlags := 25, nameIndex := 288, descriptorIndex := 25, attributes := #[] }, { accessFlags := 25, nameIndex := 290, descriptorIndex := 25, attributes := #[] }, { accessFlags := 25, nameIndex := 292, descriptorIndex := 25, attributes := #[] }, { accessFlags := 26, nameIndex := 108, descriptorIndex := 109, attributes := #[] }, { accessFlags := 25, nameIndex := 294, descriptorIndex := 25, attributes := #[] }])
  fields := #[{ name := "U", type := (.object "jdk/internal/misc/Unsafe"), accessFlags := 24, slot := 0, constantValue := 0 }, { name := "BIG_ENDIAN", type := .boolean, accessFlags := 26, slot := 1, constantValue := 0 }, { name := "LOG2_ARRAY_BOOLEAN_INDEX_SCALE", type := .int, accessFlags := 25, slot := 2, constantValue := 0 }, { name := "LOG2_ARRAY_BYTE_INDEX_SCALE", type := .int, accessFlags := 25, slot := 3, constantValue := 0 }, { name := "LOG2_ARRAY_CHAR_INDEX_SCALE", type := .int, accessFlags := 25, slot := 4, constantValue := 0 }, { name := "LOG2_ARRAY_SHORT_INDEX_SCALE", type := .int, accessFlags := 25, slot := 5, constantValue := 0 }, { name := "LOG2_ARRAY_INT_INDEX_SCALE", type := .int, accessFlags := 25, slot := 6, constantValue := 0 }, { name := "LOG2_ARRAY_LONG_INDEX_SCALE", type := .int, accessFlags := 25, slot := 7, constantValue := 0 }, { name := "LOG2_ARRAY_FLOAT_INDEX_SCALE", type := .int, accessFlags := 25, slot := 8, constantValue := 0 }, { name := "LOG2_ARRAY_DOUBLE_INDEX_SCALE", type := .int, accessFlags := 25, slot := 9, constantValue := 0 }, { name := "LOG2_BYTE_BIT_SIZE", type := .int, accessFlags := 26, slot := 10, constantValue := 0 }, { name := "T_BOOLEAN", type := .int, accessFlags := 25, slot := 11, constantValue := 0 }, { name := "T_CHAR", type := .int, accessFlags := 25, slot := 12, constantValue := 0 }, { name := "T_FLOAT", type := .int, accessFlags := 25, slot := 13, constantValue := 0 }, { name := "T_DOUBLE", type := .int, accessFlags := 25, slot := 14, constantValue := 0 }, { name := "T_BYTE", type := .int, accessFlags := 25, slot := 15, constantValue := 0 }, { name := "T_SHORT", type := .int, accessFlags := 25, slot := 16, constantValue := 0 }, { name := "T_INT", type := .int, accessFlags := 25, slot := 17, constantValue := 0 }, { name := "T_LONG", type := .int, accessFlags := 25, slot := 18, constantValue := 0 }, { name := "JLA", type := (.object "jdk/internal/access/JavaLangAccess"), accessFlags := 26, slot := 19, constantValue := 0 }, { name := "SOFT_MAX_ARRAY_LENGTH", type := .int, accessFlags := 25, slot := 20, constantValue := 0 }]
  methods := #[k15m0]
  instanceTypes := #[]
  staticTypes := #[(.object "jdk/internal/misc/Unsafe"), .boolean, .int, .int, .int, .int, .int, .int, .int, .int, .int, .int, .int, .int, .int, .int, .int, .int, .int, (.object "jdk/internal/access/JavaLangAccess"), .int]
  resolved := Array.replicate 378 none
  statics := none }

def pool16 : Array CpInfo := pool [(1, u "java/lang/Cloneable"), (0, .class_ 1), (0, u "java/lang/Object"), (0, .class_ 3)] 3

/-- java/lang/Cloneable -/
def k16 : Class := { plain "java/lang/Cloneable" (some 0) with
  accessFlags := 1537
  interfaces := #[]
  cf := some (fileOf pool16 2 #[] #[] 1537 4 #[] #[])
  fields := #[]
  methods := #[]
  instanceTypes := #[]
  staticTypes := #[]
  resolved := Array.replicate 8 none
  statics := none }

/-- the primitive byte -/
def k17 : Class := { plain "byte" none with kind := .primitive 'B', accessFlags := 0x411 }
/-- [B -/
def k18 : Class := { plain "[B" (some 0) with kind := .array 17 .byte, interfaces := #[16, 2], accessFlags := 1041 }

/-- the primitive char -/
def k19 : Class := { plain "char" none with kind := .primitive 'C', accessFlags := 0x411 }
/-- [C -/
def k20 : Class := { plain "[C" (some 0) with kind := .array 19 .char, interfaces := #[16, 2], accessFlags := 1041 }

/-- the primitive int -/
def k21 : Class := { plain "int" none with kind := .primitive 'I', accessFlags := 0x411 }
/-- [I -/
def k22 : Class := { plain "[I" (some 0) with kind := .array 21 .int, interfaces := #[16, 2], accessFlags := 1041 }

def heap : Heap := #[{ cls := 7, slots := #[.long 0, .int 1, .null, .int 0, .null, .int 0, .int 0], vm := .statics 7 },
  { cls := 11, slots := #[.ref 4, .ref 5], vm := .statics 11 },
  { cls := 12, slots := #[.ref 6], vm := .statics 12 },
  { cls := 14, slots := #[.null, .null, .null], vm := .statics 14 },
  { cls := 11, slots := #[.null, .int 0], vm := .none },
  { cls := 11, slots := #[.null, .int 0], vm := .none },
  { cls := 12, slots := #[.null], vm := .none }]
def classes : Array Class := #[k0, k1, k2, k3, k4, k5, k6, k7, k8, k9, k10, k11, k12, k13, k14, k15, k16, k17, k18, k19, k20, k21, k22]
def interned : List (Array UInt16 × Addr) := []
def slotsUsed : Nat := 18
def theMethod : MethodId := ⟨1, 2⟩
def args0 : Array Value := #[.int 5, .int 3, .int 2, .int 7]
def aboutOver (below : List Frame) : State where
  vm := { classes := classes, interned := interned.toArray }
  heap := heap
  slotsUsed := slotsUsed
  threads := #[{ frames := .invoking theMethod args0 :: below }]
def below0 : List Frame := [.native { method := ⟨0, 0⟩, args := #[] }]
def about1 : State := aboutOver below0
def p0 : Program := .bare "" "" ""
def e0 : Env := launch0.env 0 0 0
theorem w_frames : about1.frames = Frame.invoking theMethod args0 :: below0 := rfl
set_option maxRecDepth 65536 in
theorem w_args : argsFit about1.vm theMethod args0 = true := by decide +kernel
set_option maxRecDepth 65536 in
theorem w_heap : heapFits about1 = true := by decide +kernel
set_option maxRecDepth 65536 in
theorem w_runnable : about1.curStatus? = some .runnable := by decide +kernel
set_option maxRecDepth 65536 in
theorem w_alone : about1.alone = true := by decide +kernel
set_option maxRecDepth 65536 in
theorem w_named : about1.methodNamed? x = some theMethod := by decide +kernel
set_option maxRecDepth 65536 in
theorem w_hears : about1.hears theMethod below0 = true := by decide +kernel
set_option maxRecDepth 65536 in
theorem w_ripe : about1.ripe theMethod args0 below0 = true := by decide +kernel
theorem w_running : about1.status = .running := rfl
set_option maxRecDepth 65536 in
theorem w_room : about1.hasRoom e0.platform room_1 = true :=
  launch0.hasRoom_least _ room_1 (by decide +kernel) (by decide +kernel) (by decide +kernel) (by decide +kernel) (by decide +kernel) (by decide +kernel)
theorem allAtoms_all (ts : List Jvm.Cond) (a : Array Jvm.Value) (st : Jvm.State) : (allAtoms ts).before a st = ts.all (fun c => c.before a st) := by
  induction ts with
  | nil => rfl
  | cons c t ih =>
    show (Jvm.Cond.and c (allAtoms t)).before a st = _
    rw [Jvm.Cond.before_and, ih, List.all_cons]
def words1 : List Jvm.Cond := Jvm.Cond.code x code maxLocals ret :: tables_1
/-- a 'code' word, met by the world's own term for the bytes: nothing is compared byte by byte -/
theorem code_word {y : MethodName} {bytes : ByteArray} {mx : Nat} {rt : Option FieldType} {a : Array Value} {s : State} {m : MethodId} {meth : Method} {c : Code} (h1 : s.methodNamed? y = some m) (h2 : s.vm.method? m = some meth) (h3 : meth.code = some c) (h4 : c.code = bytes)
    (h5 : (c.maxLocals == mx && c.exceptionTable.isEmpty && decide (c.maxStack ≤ mostOperands) && decide (meth.sig.returnType = rt) && !meth.locks && decide (parseMethodDescriptor y.desc = some meth.sig)) = true) : (Jvm.Cond.code y bytes mx rt).before a s = true := by
  simp only [Bool.and_eq_true, beq_iff_eq, Bool.not_eq_true', decide_eq_true_eq] at h5
  obtain ⟨⟨⟨⟨⟨g1, g2⟩, g3⟩, g4⟩, g5⟩, g6⟩ := h5
  simp [Cond.before, Cond.holds, Cond.value, h1, h2, h3, h4, g1, g2, g3, g4, g5, g6]
def isCode : Jvm.Cond → Bool
  | .code _ _ _ _ => true
  | _ => false
theorem all_split {L : List Jvm.Cond} {P : Jvm.Cond → Bool} (h1 : L.all (fun c => isCode c || P c) = true) (h2 : ∀ c ∈ L.filter isCode, P c = true) : L.all P = true := by
  refine List.all_eq_true.mpr fun c hc => ?_
  have h := List.all_eq_true.mp h1 c hc
  rcases Bool.eq_false_or_eq_true (isCode c) with hi | hi
  · exact h2 c (List.mem_filter.mpr ⟨hc, hi⟩)
  · simpa [hi] using h
set_option maxRecDepth 65536 in
theorem w_c0 : (Jvm.Cond.code x code maxLocals ret).before args0 about1 = true := code_word (m := ⟨1, 2⟩) (meth := k1m2) (c := k1c2) (by decide +kernel) rfl rfl rfl (by decide +kernel)
set_option maxRecDepth 65536 in
theorem w_c1 : (Jvm.Cond.code ({ cls := "java/lang/String", name := "<init>", desc := "([C)V" } : Jvm.MethodName) jdk_42_method_3_code (2 : Nat) (Option.none : Option Jvm.ClassFile.FieldType)).before args0 about1 = true := code_word (m := ⟨7, 1⟩) (meth := k7m1) (c := k7c1) (by decide +kernel) rfl rfl rfl (by decide +kernel)
set_option maxRecDepth 65536 in
theorem w_c2 : (Jvm.Cond.code ({ cls := "java/lang/String", name := "<init>", desc := "([CIILjava/lang/Void;)V" } : Jvm.MethodName) jdk_42_method_149_code (6 : Nat) (Option.none : Option Jvm.ClassFile.FieldType)).before args0 about1 = true := code_word (m := ⟨7, 2⟩) (meth := k7m2) (c := k7c2) (by decide +kernel) rfl rfl rfl (by decide +kernel)
set_option maxRecDepth 65536 in
theorem w_c3 : (Jvm.Cond.code ({ cls := "java/lang/Object", name := "<init>", desc := "()V" } : Jvm.MethodName) object_method_1_code (1 : Nat) (Option.none : Option Jvm.ClassFile.FieldType)).before args0 about1 = true := code_word (m := ⟨0, 0⟩) (meth := k0m0) (c := k0c0) (by decide +kernel) rfl rfl rfl (by decide +kernel)
set_option maxRecDepth 65536 in
theorem w_c4 : (Jvm.Cond.code ({ cls := "java/lang/StringUTF16", name := "compress", desc := "([CII)[B" } : Jvm.MethodName) jdk_52_method_16_code (6 : Nat) (Option.some (Jvm.ClassFile.FieldType.array Jvm.ClassFile.FieldType.byte))).before args0 about1 = true := code_word (m := ⟨8, 2⟩) (meth := k8m2) (c := k8c2) (by decide +kernel) rfl rfl rfl (by decide +kernel)
set_option maxRecDepth 65536 in
theorem w_c5 : (Jvm.Cond.code ({ cls := "java/lang/StringUTF16", name := "compress", desc := "([CI[BII)I" } : Jvm.MethodName) jdk_52_method_21_code (7 : Nat) (Option.some Jvm.ClassFile.FieldType.int)).before args0 about1 = true := code_word (m := ⟨8, 3⟩) (meth := k8m3) (c := k8c3) (by decide +kernel) rfl rfl rfl (by decide +kernel)
set_option maxRecDepth 65536 in
theorem w_c6 : (Jvm.Cond.code ({ cls := "java/lang/StringUTF16", name := "coderFromArrayLen", desc := "([BI)B" } : Jvm.MethodName) jdk_52_method_15_code (2 : Nat) (Option.some Jvm.ClassFile.FieldType.byte)).before args0 about1 = true := code_word (m := ⟨8, 1⟩) (meth := k8m1) (c := k8c1) (by decide +kernel) rfl rfl rfl (by decide +kernel)
set_option maxRecDepth 65536 in
theorem w_c7 : (Jvm.Cond.code ({ cls := "com/example/dalles/dalles/schema/Sequence", name := "<init>", desc := "(Ljava/lang/String;Ljava/lang/String;)V" } : Jvm.MethodName) prog_55_method_1_code (3 : Nat) (Option.none : Option Jvm.ClassFile.FieldType)).before args0 about1 = true := code_word (m := ⟨9, 0⟩) (meth := k9m0) (c := k9c0) (by decide +kernel) rfl rfl rfl (by decide +kernel)
set_option maxRecDepth 65536 in
theorem w_c8 : (Jvm.Cond.code ({ cls := "com/example/dalles/dalles/schema/PostgreSqlColumn", name := "<init>", desc := "(Ljava/lang/String;Ljava/lang/String;I)V" } : Jvm.MethodName) prog_46_method_1_code (4 : Nat) (Option.none : Option Jvm.ClassFile.FieldType)).before args0 about1 = true := code_word (m := ⟨10, 0⟩) (meth := k10m0) (c := k10c0) (by decide +kernel) rfl rfl rfl (by decide +kernel)
set_option maxRecDepth 65536 in
theorem w_c9 : (Jvm.Cond.code ({ cls := "java/util/Optional", name := "empty", desc := "()Ljava/util/Optional;" } : Jvm.MethodName) jdk_32_method_1_code (1 : Nat) (Option.some (Jvm.ClassFile.FieldType.object "java/util/Optional"))).before args0 about1 = true := code_word (m := ⟨12, 0⟩) (meth := k12m0) (c := k12c0) (by decide +kernel) rfl rfl rfl (by decide +kernel)
set_option maxRecDepth 65536 in
theorem w_c10 : (Jvm.Cond.code ({ cls := "com/example/dalles/dalles/schema/PostgreSqlColumn", name := "isIdentity", desc := "()Z" } : Jvm.MethodName) prog_46_method_6_code (1 : Nat) (Option.some Jvm.ClassFile.FieldType.boolean)).before args0 about1 = true := code_word (m := ⟨10, 3⟩) (meth := k10m3) (c := k10c3) (by decide +kernel) rfl rfl rfl (by decide +kernel)
set_option maxRecDepth 65536 in
theorem w_c11 : (Jvm.Cond.code ({ cls := "com/example/dalles/dalles/schema/PostgreSqlColumnIsIdentityPinLaw", name := "pick", desc := "(I)Lcom/example/dalles/dalles/schema/Fill;" } : Jvm.MethodName) method_2_code (1 : Nat) (Option.some (Jvm.ClassFile.FieldType.object "com/example/dalles/dalles/schema/Fill"))).before args0 about1 = true := code_word (m := ⟨1, 1⟩) (meth := k1m1) (c := k1c1) (by decide +kernel) rfl rfl rfl (by decide +kernel)
set_option maxRecDepth 65536 in
theorem w_c12 : (Jvm.Cond.code ({ cls := "com/example/dalles/dalles/schema/PostgreSqlColumn", name := "setDefault", desc := "(Lcom/example/dalles/dalles/schema/Fill;)V" } : Jvm.MethodName) prog_46_method_4_code (2 : Nat) (Option.none : Option Jvm.ClassFile.FieldType)).before args0 about1 = true := code_word (m := ⟨10, 1⟩) (meth := k10m1) (c := k10c1) (by decide +kernel) rfl rfl rfl (by decide +kernel)
set_option maxRecDepth 65536 in
theorem w_c13 : (Jvm.Cond.code ({ cls := "com/example/dalles/dalles/schema/PostgreSqlColumn", name := "copy", desc := "(Z)Lcom/example/dalles/dalles/schema/PostgreSqlColumn;" } : Jvm.MethodName) prog_46_method_9_code (3 : Nat) (Option.some (Jvm.ClassFile.FieldType.object "com/example/dalles/dalles/schema/PostgreSqlColumn"))).before args0 about1 = true := code_word (m := ⟨10, 4⟩) (meth := k10m4) (c := k10c4) (by decide +kernel) rfl rfl rfl (by decide +kernel)
set_option maxRecDepth 65536 in
theorem w_c14 : (Jvm.Cond.code ({ cls := "com/example/dalles/dalles/schema/PostgreSqlColumn", name := "inheritDefault", desc := "(Lcom/example/dalles/dalles/schema/PostgreSqlColumn;)V" } : Jvm.MethodName) prog_46_method_10_code (2 : Nat) (Option.none : Option Jvm.ClassFile.FieldType)).before args0 about1 = true := code_word (m := ⟨10, 5⟩) (meth := k10m5) (c := k10c5) (by decide +kernel) rfl rfl rfl (by decide +kernel)
set_option maxRecDepth 65536 in
theorem w_c15 : (Jvm.Cond.code ({ cls := "com/example/dalles/dalles/schema/PostgreSqlColumn", name := "makeIdentity", desc := "(Lcom/example/dalles/dalles/schema/Sequence;)V" } : Jvm.MethodName) prog_46_method_5_code (2 : Nat) (Option.none : Option Jvm.ClassFile.FieldType)).before args0 about1 = true := code_word (m := ⟨10, 2⟩) (meth := k10m2) (c := k10c2) (by decide +kernel) rfl rfl rfl (by decide +kernel)
def codes1 : List Jvm.Cond := [Jvm.Cond.code x code maxLocals ret, Jvm.Cond.code ({ cls := "java/lang/String", name := "<init>", desc := "([C)V" } : Jvm.MethodName) jdk_42_method_3_code (2 : Nat) (Option.none : Option Jvm.ClassFile.FieldType), Jvm.Cond.code ({ cls := "java/lang/String", name := "<init>", desc := "([CIILjava/lang/Void;)V" } : Jvm.MethodName) jdk_42_method_149_code (6 : Nat) (Option.none : Option Jvm.ClassFile.FieldType), Jvm.Cond.code ({ cls := "java/lang/Object", name := "<init>", desc := "()V" } : Jvm.MethodName) object_method_1_code (1 : Nat) (Option.none : Option Jvm.ClassFile.FieldType), Jvm.Cond.code ({ cls := "java/lang/StringUTF16", name := "compress", desc := "([CII)[B" } : Jvm.MethodName) jdk_52_method_16_code (6 : Nat) (Option.some (Jvm.ClassFile.FieldType.array Jvm.ClassFile.FieldType.byte)), Jvm.Cond.code ({ cls := "java/lang/StringUTF16", name := "compress", desc := "([CI[BII)I" } : Jvm.MethodName) jdk_52_method_21_code (7 : Nat) (Option.some Jvm.ClassFile.FieldType.int), Jvm.Cond.code ({ cls := "java/lang/StringUTF16", name := "coderFromArrayLen", desc := "([BI)B" } : Jvm.MethodName) jdk_52_method_15_code (2 : Nat) (Option.some Jvm.ClassFile.FieldType.byte), Jvm.Cond.code ({ cls := "com/example/dalles/dalles/schema/Sequence", name := "<init>", desc := "(Ljava/lang/String;Ljava/lang/String;)V" } : Jvm.MethodName) prog_55_method_1_code (3 : Nat) (Option.none : Option Jvm.ClassFile.FieldType), Jvm.Cond.code ({ cls := "com/example/dalles/dalles/schema/PostgreSqlColumn", name := "<init>", desc := "(Ljava/lang/String;Ljava/lang/String;I)V" } : Jvm.MethodName) prog_46_method_1_code (4 : Nat) (Option.none : Option Jvm.ClassFile.FieldType), Jvm.Cond.code ({ cls := "java/util/Optional", name := "empty", desc := "()Ljava/util/Optional;" } : Jvm.MethodName) jdk_32_method_1_code (1 : Nat) (Option.some (Jvm.ClassFile.FieldType.object "java/util/Optional")), Jvm.Cond.code ({ cls := "com/example/dalles/dalles/schema/PostgreSqlColumn", name := "isIdentity", desc := "()Z" } : Jvm.MethodName) prog_46_method_6_code (1 : Nat) (Option.some Jvm.ClassFile.FieldType.boolean), Jvm.Cond.code ({ cls := "com/example/dalles/dalles/schema/PostgreSqlColumnIsIdentityPinLaw", name := "pick", desc := "(I)Lcom/example/dalles/dalles/schema/Fill;" } : Jvm.MethodName) method_2_code (1 : Nat) (Option.some (Jvm.ClassFile.FieldType.object "com/example/dalles/dalles/schema/Fill")), Jvm.Cond.code ({ cls := "com/example/dalles/dalles/schema/PostgreSqlColumn", name := "setDefault", desc := "(Lcom/example/dalles/dalles/schema/Fill;)V" } : Jvm.MethodName) prog_46_method_4_code (2 : Nat) (Option.none : Option Jvm.ClassFile.FieldType), Jvm.Cond.code ({ cls := "com/example/dalles/dalles/schema/PostgreSqlColumn", name := "copy", desc := "(Z)Lcom/example/dalles/dalles/schema/PostgreSqlColumn;" } : Jvm.MethodName) prog_46_method_9_code (3 : Nat) (Option.some (Jvm.ClassFile.FieldType.object "com/example/dalles/dalles/schema/PostgreSqlColumn")), Jvm.Cond.code ({ cls := "com/example/dalles/dalles/schema/PostgreSqlColumn", name := "inheritDefault", desc := "(Lcom/example/dalles/dalles/schema/PostgreSqlColumn;)V" } : Jvm.MethodName) prog_46_method_10_code (2 : Nat) (Option.none : Option Jvm.ClassFile.FieldType), Jvm.Cond.code ({ cls := "com/example/dalles/dalles/schema/PostgreSqlColumn", name := "makeIdentity", desc := "(Lcom/example/dalles/dalles/schema/Sequence;)V" } : Jvm.MethodName) prog_46_method_5_code (2 : Nat) (Option.none : Option Jvm.ClassFile.FieldType)]
set_option maxRecDepth 65536 in
theorem codes_eq : words1.filter isCode = codes1 := rfl
theorem w_codes : ∀ c ∈ words1.filter isCode, c.before args0 about1 = true := by
  rw [codes_eq]
  intro c hc
  simp only [codes1, List.mem_cons, List.not_mem_nil, or_false] at hc
  rcases hc with rfl | rfl | rfl | rfl | rfl | rfl | rfl | rfl | rfl | rfl | rfl | rfl | rfl | rfl | rfl | rfl
  · exact w_c0
  · exact w_c1
  · exact w_c2
  · exact w_c3
  · exact w_c4
  · exact w_c5
  · exact w_c6
  · exact w_c7
  · exact w_c8
  · exact w_c9
  · exact w_c10
  · exact w_c11
  · exact w_c12
  · exact w_c13
  · exact w_c14
  · exact w_c15
set_option maxRecDepth 65536 in
theorem w_t1 : (words1.take 24).all (fun c => isCode c || c.before args0 about1) = true := by decide +kernel
set_option maxRecDepth 65536 in
theorem w_t2 : ((words1.drop 24).take 24).all (fun c => isCode c || c.before args0 about1) = true := by decide +kernel
set_option maxRecDepth 65536 in
theorem w_t3 : (((words1.drop 24).drop 24).take 24).all (fun c => isCode c || c.before args0 about1) = true := by decide +kernel
set_option maxRecDepth 65536 in
theorem w_t4 : ((((words1.drop 24).drop 24).drop 24).take 24).all (fun c => isCode c || c.before args0 about1) = true := by decide +kernel
set_option maxRecDepth 65536 in
theorem w_t5 : ((((words1.drop 24).drop 24).drop 24).drop 24).all (fun c => isCode c || c.before args0 about1) = true := by decide +kernel
theorem w_tables : (allAtoms (Jvm.Cond.code x code maxLocals ret :: tables_1)).before args0 about1 = true := by
  rw [allAtoms_all]
  show words1.all (fun c => c.before args0 about1) = true
  refine all_split ?_ w_codes
  rw [← List.take_append_drop 24 words1, List.all_append, w_t1, ← List.take_append_drop 24 (words1.drop 24), List.all_append, w_t2, ← List.take_append_drop 24 ((words1.drop 24).drop 24), List.all_append, w_t3, ← List.take_append_drop 24 (((words1.drop 24).drop 24).drop 24), List.all_append, w_t4, w_t5]
  rfl
set_option maxRecDepth 65536 in
theorem w_rest : rest_1_c.before args0 about1 = true := by decide +kernel
set_option maxRecDepth 65536 in
theorem w_case : (Jvm.Cond.and given_1 narrow_1).before args0 about1 = true := by decide +kernel
theorem w_applies : (headSpec (Jvm.Cond.code x code maxLocals ret :: tables_1) room_1).applies x e0.platform about1 = true :=
  (Spec.applies_iff w_frames).mpr ⟨w_running, w_runnable, w_alone, w_named, w_hears, w_ripe, w_room, w_tables⟩
theorem atStart : AtStart classFile x code maxLocals ret World_1 tables_1 room_1 Calls_1 rest_1 Pre_1 launch0 p0 e0 about1 theMethod args0 below0 :=
  ⟨lists_1, trivial, launch0.admits_env _ _ _, launch0.least_env, fairChoices_fair.cas, fairChoices_fair.clock, w_frames, w_args, w_heap, w_applies, trivial, w_rest, w_case⟩
end start1
theorem witness_1 : WitnessClaimed_1 := ⟨start1.p0, start1.e0, start1.about1, start1.theMethod, start1.args0, start1.below0, start1.atStart⟩
end Jvm.Pilot.@@N@@
