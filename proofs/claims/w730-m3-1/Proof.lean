import JvmDerived
import JvmDerived.Pilot.@@N@@Statement
import JvmDerived.Pilot.@@N@@Code
set_option linter.unusedVariables false
set_option linter.unusedSimpArgs false
namespace Jvm.Pilot.@@N@@
open Jvm Jvm.ClassFile Sem Op Lib Jvm.Free Jvm.Stand Jvm.LawKit Jvm.RoadKit Bundle Jvm.Pilot.@@N@@.Jvm.D
/-! THE OWN LAYER (printed by own/gen_layer.py): Wp: from this pc, with these locals, this operand stack and these new objects, the body comes to its return and Q holds of what it returns and of the new objects then -/
abbrev OSig := List (String × String × String)
abbrev ObjB := (String × OSig × List Value) ⊕ ((FieldType × List Int32) ⊕ (List Int64 ⊕ (String × FieldType × List Value)))
/-- an object of the walk: true: made by it (it may be written); false: only read -/
abbrev Obj := Bool × ObjB
abbrev oI (C : String) (sg : OSig) (vs : List Value) : Obj := (true, .inl (C, sg, vs))
abbrev oA (ty : FieldType) (xs : List Int32) : Obj := (true, .inr (.inl (ty, xs)))
abbrev oJ (xs : List Int64) : Obj := (true, .inr (.inr (.inl xs)))
abbrev oR (C : String) (ty : FieldType) (vs : List Value) : Obj := (true, .inr (.inr (.inr (C, ty, vs))))
abbrev fI (C : String) (sg : OSig) (vs : List Value) : Obj := (false, .inl (C, sg, vs))
abbrev fA (ty : FieldType) (xs : List Int32) : Obj := (false, .inr (.inl (ty, xs)))
abbrev OH := List (Addr × Obj)
def Slo (Z : State) (sg : OSig) : Prop := sg.Pairwise fun f g => Jvm.RoadKit.slotOf Z f.1 f.2.1 f.2.2 ≠ Jvm.RoadKit.slotOf Z g.1 g.2.1 g.2.2
def OvrT (Z : State) (cA : ClassId) (C : String) (ty : FieldType) : Prop := ∃ (k : Class) (comp : ClassId), Z.vm.classes[cA]? = some k ∧ k.kind = .array comp ty ∧ Z.vm.findClass C = some comp
def Sat (Z : State) (h : Heap) (a : Addr) : ObjB → Prop
  | .inl (C, sg, vs) => Exa Z h a C ∧ Slo Z sg ∧ ∀ (i : Nat) (f : String × String × String) (v : Value), sg[i]? = some f → vs[i]? = some v → Fld Z h a f.1 f.2.1 f.2.2 v
  | .inr (.inl (ty, xs)) => (ty = .byte ∨ Exa Z h a ("[" ++ ty.toString)) ∧ ∃ c : Cell, Arr Z h a c ty ∧ c.slots = (xs.map Value.int).toArray ∧ ∀ x ∈ xs, fits ty (.int x) = true
  | .inr (.inr (.inl xs)) => Exa Z h a "[J" ∧ ∃ c : Cell, Arr Z h a c .long ∧ c.slots = (xs.map Value.long).toArray
  | .inr (.inr (.inr (C, ty, vs))) => Exa Z h a ("[" ++ ty.toString) ∧ ∃ c : Cell, Arr Z h a c ty ∧ OvrT Z c.cls C ty ∧ c.slots = vs.toArray ∧ ∀ v ∈ vs, v.isRef = true
def Hp (Z : State) (h : Heap) (H : OH) : Prop := Ext Z.heap h ∧ (∀ x ∈ H, (x.2.1 = true → Z.heap.size ≤ x.1) ∧ Sat Z h x.1 x.2.2) ∧ H.Pairwise fun x y => (x.2.1 = true ∨ y.2.1 = true) → x.1 ≠ y.1
theorem Sat.ext {Z : State} {h h' : Heap} {a : Addr} (E : Ext h h') : ∀ {o : ObjB}, Sat Z h a o → Sat Z h' a o
  | .inl (C, sg, vs), ⟨h1, h2, h3⟩ => ⟨h1.ext E, h2, fun i f v q r => (h3 i f v q r).ext E⟩
  | .inr (.inl (ty, xs)), ⟨q, c, h1, h2⟩ => ⟨q.imp id (·.ext E), c, h1.ext E, h2⟩
  | .inr (.inr (.inl xs)), ⟨q, c, h1, h2⟩ => ⟨q.ext E, c, h1.ext E, h2⟩
  | .inr (.inr (.inr (C, ty, vs))), ⟨q, c, h1, h2⟩ => ⟨q.ext E, c, h1.ext E, h2⟩
theorem Sat.other {Z : State} {h h' : Heap} {a b : Addr} {sl : Nat} {v : Value} (W : Wr h h' a sl v) (ne : b ≠ a) : ∀ {o : ObjB}, Sat Z h b o → Sat Z h' b o
  | .inl (C, sg, vs), ⟨h1, h2, h3⟩ => ⟨h1.wr W, h2, fun i f v q r => (h3 i f v q r).other W (Or.inl ne)⟩
  | .inr (.inl (ty, xs)), ⟨q, c, h1, h2⟩ => ⟨q.imp id (·.wr W), c, h1.other W ne, h2⟩
  | .inr (.inr (.inl xs)), ⟨q, c, h1, h2⟩ => ⟨q.wr W, c, h1.other W ne, h2⟩
  | .inr (.inr (.inr (C, ty, vs))), ⟨q, c, h1, h2⟩ => ⟨q.wr W, c, h1.other W ne, h2⟩
theorem Sat.lt {Z : State} {h : Heap} {a : Addr} : ∀ {o : ObjB}, Sat Z h a o → a < h.size
  | .inl (C, sg, vs), ⟨h1, h2, h3⟩ => h1.lt
  | .inr (.inl (ty, xs)), ⟨_, c, h1, _⟩ => h1.lt
  | .inr (.inr (.inl xs)), ⟨q, _⟩ => q.lt
  | .inr (.inr (.inr (C, ty, vs))), ⟨q, _⟩ => q.lt
theorem Hp.nil (Z : State) : Hp Z Z.heap [] := ⟨⟨Nat.le_refl _, fun _ _ q => q⟩, (fun _ q => nomatch q), List.Pairwise.nil⟩
theorem ext_trans {h h1 h2 : Heap} (E : Ext h h1) (E' : Ext h1 h2) : Ext h h2 := ⟨Nat.le_trans E.1 E'.1, fun a c q => E'.2 a c (E.2 a c q)⟩
theorem Hp.ext {Z : State} {h h' : Heap} {H : OH} (P : Hp Z h H) (E : Ext h h') : Hp Z h' H := ⟨ext_trans P.1 E, fun x q => ⟨(P.2.1 x q).1, (P.2.1 x q).2.ext E⟩, P.2.2⟩
theorem Hp.cons {Z : State} {h h' : Heap} {H : OH} (P : Hp Z h H) (E : Ext h h') {fl : Bool} {o : ObjB} (S : Sat Z h' h.size o) : Hp Z h' ((h.size, (fl, o)) :: H) :=
  ⟨ext_trans P.1 E, fun x q => (List.mem_cons.mp q).elim (fun e => by subst e; exact ⟨fun _ => P.1.1, S⟩) fun q => ⟨(P.2.1 x q).1, (P.2.1 x q).2.ext E⟩,
    List.Pairwise.cons (fun y q _ e => absurd ((P.2.1 y q).2.lt) (by rw [← e]; exact Nat.lt_irrefl _)) P.2.2⟩
theorem Hp.at {Z : State} {h : Heap} {H : OH} (P : Hp Z h H) {i : Nat} {x : Addr × Obj} (q : H[i]? = some x) : (x.2.1 = true → Z.heap.size ≤ x.1) ∧ Sat Z h x.1 x.2.2 := P.2.1 x (List.mem_of_getElem? q)
theorem Hp.ne {Z : State} {h : Heap} {H : OH} (P : Hp Z h H) {i j : Nat} {x y : Addr × Obj} (q : H[i]? = some x) (r : H[j]? = some y) (ht : x.2.1 = true ∨ y.2.1 = true) (ij : i ≠ j) : x.1 ≠ y.1 := by
  have hP := List.pairwise_iff_getElem.mp P.2.2
  obtain ⟨hi, rfl⟩ := List.getElem?_eq_some_iff.mp q
  obtain ⟨hj, rfl⟩ := List.getElem?_eq_some_iff.mp r
  rcases Nat.lt_or_gt_of_ne ij with u | u
  · exact hP i j hi hj u ht
  · exact fun e => hP j i hj hi u ht.symm e.symm
theorem Hp.set {Z : State} {h h' : Heap} {H : OH} (P : Hp Z h H) {i : Nat} {a : Addr} {o o' : ObjB} (q : H[i]? = some (a, (true, o))) {sl : Nat} {v : Value} (W : Wr h h' a sl v) (S : Sat Z h' a o') : Hp Z h' (H.set i (a, (true, o'))) := by
  have g : Z.heap.size ≤ a := (P.at q).1 rfl
  obtain ⟨hi, hq⟩ := List.getElem?_eq_some_iff.mp q
  refine ⟨⟨by rw [W.size]; exact P.1.1, fun b c r => ?_⟩, fun x hx => ?_, ?_⟩
  · obtain ⟨c', e1, -, -, -, e5, -⟩ := wr_at W (P.1.2 b c r)
    have : b < Z.heap.size := (Array.getElem?_eq_some_iff.mp r).1
    rw [← e5 (by rintro rfl; exact absurd this (Nat.not_lt.mpr g))]; exact e1
  · obtain ⟨n, hn⟩ := List.getElem?_of_mem hx
    rw [List.getElem?_set] at hn
    split at hn
    · have e0 : (a, (true, o')) = x := by simpa [hi] using hn
      subst e0; exact ⟨fun _ => g, S⟩
    · rename_i ne
      exact ⟨(P.at hn).1, (P.at hn).2.other W (P.ne hn q (Or.inr rfl) (Ne.symm ne))⟩
  · have e : (H.set i (a, (true, o'))).map (fun x => (x.1, x.2.1)) = H.map (fun x => (x.1, x.2.1)) := by
      rw [List.map_set]
      refine List.ext_getElem? fun n => ?_
      rw [List.getElem?_set]
      split
      · rename_i e; subst e
        simp [hi, hq]
      · rfl
    have h1 : (H.map (fun x => (x.1, x.2.1))).Pairwise (fun u v => (u.2 = true ∨ v.2 = true) → u.1 ≠ v.1) := List.pairwise_map.mpr P.2.2
    rw [← e] at h1
    exact List.pairwise_map.mp h1
theorem Hp.pick {Z : State} {h : Heap} {H : OH} (P : Hp Z h H) (is : List Nat) (hn : is.Nodup) : Hp Z h (is.filterMap fun i => H[i]?) := by
  refine ⟨P.1, fun x hx => ?_, ?_⟩
  · obtain ⟨i, -, q⟩ := List.mem_filterMap.mp hx
    exact P.at q
  · refine List.pairwise_filterMap.mpr (hn.imp fun {i j} ne x hx y hy ht => P.ne hx hy ht ne)
/-- what an instruction says: its constructor, its length, the next pc -/
def Dc (bytes : ByteArray) (pc : Nat) (i : Instr) (n pc' : Nat) : Prop := decode bytes pc = .ok (i, n) ∧ pc + n = pc'
def Tg (pc : Nat) (o : Int) (pc' : Nat) : Prop := 0 ≤ (pc : Int) + o ∧ ((pc : Int) + o).toNat = pc'
/-- the walk's mode: none: it loads no String constant; some none: it may; some (some Ts): it has loaded these texts and no others -/
abbrev Md := Option (Option (List String))
def MdOk (b : Md) (Z s : State) (vm0 : Vm) : Prop := ∀ Ts, b = some (some Ts) → s.heap = Z.heap ∧ Jvm.RoadKit.IB Z vm0 Ts
def Wp (b : Md) (l : Launch) (Z : State) (own nm : String) (bytes : ByteArray) (maxL : Nat) (ret : Option FieldType) (R : Room) (H : OH) (k j : Nat) (pc : Nat) (Ls : Array Slot) (st : List Value) (Q : Option Value → OH → Prop) : Prop :=
  ∀ (p : Program) (e : Env) (s : State) (vm0 : Vm) (k0 : Nat) (m : MethodId) (args : Array Value) (below : List Frame) (meth : Method) (c : Code) (T : State) (L : List Loc),
    p.tables.exec = Jvm.exec → Z.Warmed39 vm0 → s.Since vm0 k0 → k0 ≤ T.heap.size → c.code = bytes → c.maxLocals = maxL → vm0.findClass own = some m.cls → meth.name = nm → meth.sig.returnType = ret →
    Stand p l e R (s.setVm vm0) m args below meth c T L k j → Fr Z.heap.size L → Hp Z T.heap H → MdOk b Z s vm0 →
    ∃ (T' : State) (v : Option Value) (L' : List Loc) (k' j' : Nat) (vm1 : Vm) (k1 : Nat) (H' : OH),
      (s.Since vm1 k1 ∧ k1 ≤ T'.heap.size ∧ (b = none → vm1 = vm0)) ∧ Stand p l e R (s.setVm vm1) m args below meth c T' L' k' j' ∧ (k' ≤ R.cells ∧ j' ≤ R.slots ∧ T.heap.size ≤ T'.heap.size) ∧ Fr Z.heap.size L' ∧ Hp Z T'.heap H' ∧ (ret = none → v = none) ∧ Q v H' ∧
      ∀ fs, (∀ (f : JFrame) (acts : List Action), f.method = m → f.locked = none → f.entered = [] → (doReturn e (T'.setTop f) acts v).1 = T'.setFrames fs) → Steps p.tables e below (T.setTop (mkF m pc Ls st)) (T'.setFrames fs)
section Own
variable {b : Md} {l : Launch} {Z : State} {a0 : Array Value} {own nm : String} {bytes : ByteArray} {maxL : Nat} {ret : Option FieldType} {R : Room} {H : OH} {k j pc pc' : Nat} {Ls : Array Slot} {st : List Value} {Q : Option Value → OH → Prop}
theorem Wp.stepH
    (hs : ∀ (p : Program) (e : Env) (s : State) (m : MethodId) (args : Array Value) (below : List Frame) (meth : Method) (c : Code) (T : State) (L : List Loc),
      p.tables.exec = Jvm.exec → Z.Warmed39 s.vm → c.code = bytes → c.maxLocals = maxL → s.vm.findClass own = some m.cls → meth.name = nm → meth.sig.returnType = ret →
      Stand p l e R s m args below meth c T L k j → Fr Z.heap.size L → Hp Z T.heap H →
      ∃ (T' : State) (L' : List Loc) (k' j' : Nat) (H' : OH) (pc' : Nat) (Ls' : Array Slot) (st' : List Value), Stand p l e R s m args below meth c T' L' k' j' ∧ T.heap.size ≤ T'.heap.size ∧ Fr Z.heap.size L' ∧ Hp Z T'.heap H' ∧ Wp b l Z own nm bytes maxL ret R H' k' j' pc' Ls' st' Q ∧
        ∀ target, Steps p.tables e below (T'.setTop (mkF m pc' Ls' st')) target → Steps p.tables e below (T.setTop (mkF m pc Ls st)) target) :
    Wp b l Z own nm bytes maxL ret R H k j pc Ls st Q := by
  intro p e s vm0 k0 m args below meth c T L hx hZ hS hk hby hml hown hnm hret X N hH hB
  obtain ⟨T', L', k', j', H', pc', Ls', st', X', hsz, N', hH', hr, stp⟩ := hs p e (s.setVm vm0) m args below meth c T L hx hZ hby hml hown hnm hret X N hH
  obtain ⟨T2, v, L2, k2, j2, vm1, k1, H2, r1, r2, ⟨r3, r4, r5⟩, r6, r7, r8, r9, r10⟩ := hr p e s vm0 k0 m args below meth c T' L' hx hZ hS (Nat.le_trans hk hsz) hby hml hown hnm hret X' N' hH' hB
  exact ⟨T2, v, L2, k2, j2, vm1, k1, H2, r1, r2, ⟨r3, r4, Nat.le_trans hsz r5⟩, r6, r7, r8, r9, fun fs hl => stp _ (r10 fs hl)⟩
theorem Wp.step {Ls' : Array Slot} {st' : List Value}
    (hs : ∀ (p : Program) (e : Env) (s : State) (m : MethodId) (args : Array Value) (below : List Frame) (meth : Method) (c : Code) (T : State) (L : List Loc),
      p.tables.exec = Jvm.exec → Z.Warmed39 s.vm → c.code = bytes → s.vm.findClass own = some m.cls → Stand p l e R s m args below meth c T L k j → Hp Z T.heap H →
        ∀ target, Steps p.tables e below (T.setTop (mkF m pc' Ls' st')) target → Steps p.tables e below (T.setTop (mkF m pc Ls st)) target)
    (hr : Wp b l Z own nm bytes maxL ret R H k j pc' Ls' st' Q) : Wp b l Z own nm bytes maxL ret R H k j pc Ls st Q :=
  Wp.stepH fun p e s m args below meth c T L hx hZ hby hml hown hnm hret X N hH => ⟨T, L, k, j, H, pc', Ls', st', X, Nat.le_refl _, N, hH, hr, hs p e s m args below meth c T L hx hZ hby hown X hH⟩
theorem Wp.know {P : Prop} (hp : ∀ h, Hp Z h H → P) (hr : P → Wp b l Z own nm bytes maxL ret R H k j pc Ls st Q) : Wp b l Z own nm bytes maxL ret R H k j pc Ls st Q :=
  fun p e s vm0 k0 m args below meth c T L hx hZ hS hk hby hml hown hnm hret X N hH hB => hr (hp _ hH) p e s vm0 k0 m args below meth c T L hx hZ hS hk hby hml hown hnm hret X N hH hB
theorem Wp.pick (is : List Nat) (hn : is.Nodup) (hr : Wp b l Z own nm bytes maxL ret R (is.filterMap fun i => H[i]?) k j pc Ls st Q) : Wp b l Z own nm bytes maxL ret R H k j pc Ls st Q :=
  Wp.stepH fun p e s m args below meth c T L hx hZ hby hml hown hnm hret X N hH => ⟨T, L, k, j, _, pc, Ls, st, X, Nat.le_refl _, N, hH.pick is hn, hr, fun _ q => q⟩
theorem Wp.more {k' j' : Nat} (hk : k ≤ k') (hj : j ≤ j') (hr : Wp b l Z own nm bytes maxL ret R H k' j' pc Ls st Q) : Wp b l Z own nm bytes maxL ret R H k j pc Ls st Q :=
  Wp.stepH fun p e s m args below meth c T L hx hZ hby hml hown hnm hret X N hH => ⟨T, L, k', j', H, pc, Ls, st, X.more hk hj, Nat.le_refl _, N, hH, hr, fun _ q => q⟩
theorem Wp.mono {Q' : Option Value → OH → Prop} (hr : Wp b l Z own nm bytes maxL ret R H k j pc Ls st Q') (hq : ∀ v H', Q' v H' → Q v H') : Wp b l Z own nm bytes maxL ret R H k j pc Ls st Q :=
  fun p e s vm0 k0 m args below meth c T L hx hZ hS hk hby hml hown hnm hret X N hH hB => by
    obtain ⟨T2, v, L2, k2, j2, vm1, k1, H2, r1, r2, r3, r6, r7, r8, r9, r10⟩ := hr p e s vm0 k0 m args below meth c T L hx hZ hS hk hby hml hown hnm hret X N hH hB
    exact ⟨T2, v, L2, k2, j2, vm1, k1, H2, r1, r2, r3, r6, r7, r8, hq _ _ r9, r10⟩
theorem wp_iadd {x y : Int32} (hd : Dc bytes pc (.iadd) 1 pc')  (hr : Wp b l Z own nm bytes maxL ret R H k j pc' Ls (.int (x + y) :: st) Q) : Wp b l Z own nm bytes maxL ret R H k j pc Ls (.int y :: .int x :: st) Q := by
  obtain ⟨hd, rfl⟩ := hd
  exact Wp.step (fun p e s m args below meth c T L hx hZ hby hown X hH target ht => XS.iadd X.here hx rfl (hb hby hd) rfl ht) hr
theorem wp_isub {x y : Int32} (hd : Dc bytes pc (.isub) 1 pc')  (hr : Wp b l Z own nm bytes maxL ret R H k j pc' Ls (.int (x - y) :: st) Q) : Wp b l Z own nm bytes maxL ret R H k j pc Ls (.int y :: .int x :: st) Q := by
  obtain ⟨hd, rfl⟩ := hd
  exact Wp.step (fun p e s m args below meth c T L hx hZ hby hown X hH target ht => XS.isub X.here hx rfl (hb hby hd) rfl ht) hr
theorem wp_iand {x y : Int32} (hd : Dc bytes pc (.iand) 1 pc')  (hr : Wp b l Z own nm bytes maxL ret R H k j pc' Ls (.int (x &&& y) :: st) Q) : Wp b l Z own nm bytes maxL ret R H k j pc Ls (.int y :: .int x :: st) Q := by
  obtain ⟨hd, rfl⟩ := hd
  exact Wp.step (fun p e s m args below meth c T L hx hZ hby hown X hH target ht => XS.iand X.here hx rfl (hb hby hd) rfl ht) hr
theorem wp_imul {x y : Int32} (hd : Dc bytes pc (.imul) 1 pc')  (hr : Wp b l Z own nm bytes maxL ret R H k j pc' Ls (.int (x * y) :: st) Q) : Wp b l Z own nm bytes maxL ret R H k j pc Ls (.int y :: .int x :: st) Q := by
  obtain ⟨hd, rfl⟩ := hd
  exact Wp.step (fun p e s m args below meth c T L hx hZ hby hown X hH target ht => XS.imul X.here hx rfl (hb hby hd) rfl ht) hr
theorem wp_ixor {x y : Int32} (hd : Dc bytes pc (.ixor) 1 pc')  (hr : Wp b l Z own nm bytes maxL ret R H k j pc' Ls (.int (x ^^^ y) :: st) Q) : Wp b l Z own nm bytes maxL ret R H k j pc Ls (.int y :: .int x :: st) Q := by
  obtain ⟨hd, rfl⟩ := hd
  exact Wp.step (fun p e s m args below meth c T L hx hZ hby hown X hH target ht => XT.ixor X.here hx rfl (hb hby hd) rfl ht) hr
theorem wp_ior {x y : Int32} (hd : Dc bytes pc (.ior) 1 pc')  (hr : Wp b l Z own nm bytes maxL ret R H k j pc' Ls (.int (x ||| y) :: st) Q) : Wp b l Z own nm bytes maxL ret R H k j pc Ls (.int y :: .int x :: st) Q := by
  obtain ⟨hd, rfl⟩ := hd
  exact Wp.step (fun p e s m args below meth c T L hx hZ hby hown X hH target ht => XT.ior X.here hx rfl (hb hby hd) rfl ht) hr
theorem wp_ishl {x y : Int32} (hd : Dc bytes pc (.ishl) 1 pc')  (hr : Wp b l Z own nm bytes maxL ret R H k j pc' Ls (.int (x <<< (y &&& 31)) :: st) Q) : Wp b l Z own nm bytes maxL ret R H k j pc Ls (.int y :: .int x :: st) Q := by
  obtain ⟨hd, rfl⟩ := hd
  exact Wp.step (fun p e s m args below meth c T L hx hZ hby hown X hH target ht => XT.ishl X.here hx rfl (hb hby hd) rfl ht) hr
theorem wp_ishr {x y : Int32} (hd : Dc bytes pc (.ishr) 1 pc')  (hr : Wp b l Z own nm bytes maxL ret R H k j pc' Ls (.int (x >>> (y &&& 31)) :: st) Q) : Wp b l Z own nm bytes maxL ret R H k j pc Ls (.int y :: .int x :: st) Q := by
  obtain ⟨hd, rfl⟩ := hd
  exact Wp.step (fun p e s m args below meth c T L hx hZ hby hown X hH target ht => XT.ishr X.here hx rfl (hb hby hd) rfl ht) hr
theorem wp_iushr {x y : Int32} (hd : Dc bytes pc (.iushr) 1 pc')  (hr : Wp b l Z own nm bytes maxL ret R H k j pc' Ls (.int (XT.ushr x y) :: st) Q) : Wp b l Z own nm bytes maxL ret R H k j pc Ls (.int y :: .int x :: st) Q := by
  obtain ⟨hd, rfl⟩ := hd
  exact Wp.step (fun p e s m args below meth c T L hx hZ hby hown X hH target ht => XT.iushr X.here hx rfl (hb hby hd) rfl ht) hr
theorem wp_idiv {x y : Int32} (hd : Dc bytes pc (.idiv) 1 pc') (hy : y ≠ 0) (hr : Wp b l Z own nm bytes maxL ret R H k j pc' Ls (.int (x / y) :: st) Q) : Wp b l Z own nm bytes maxL ret R H k j pc Ls (.int y :: .int x :: st) Q := by
  obtain ⟨hd, rfl⟩ := hd
  exact Wp.step (fun p e s m args below meth c T L hx hZ hby hown X hH target ht => XS.idiv X.here hx rfl (hb hby hd) rfl hy ht) hr
theorem wp_irem {x y : Int32} (hd : Dc bytes pc (.irem) 1 pc') (hy : y ≠ 0) (hr : Wp b l Z own nm bytes maxL ret R H k j pc' Ls (.int (x % y) :: st) Q) : Wp b l Z own nm bytes maxL ret R H k j pc Ls (.int y :: .int x :: st) Q := by
  obtain ⟨hd, rfl⟩ := hd
  exact Wp.step (fun p e s m args below meth c T L hx hZ hby hown X hH target ht => iremM X hx rfl (hb hby hd) rfl hy ht) hr
theorem wp_ineg {x : Int32} (hd : Dc bytes pc (.ineg) 1 pc')  (hr : Wp b l Z own nm bytes maxL ret R H k j pc' Ls (.int (-x) :: st) Q) : Wp b l Z own nm bytes maxL ret R H k j pc Ls (.int x :: st) Q := by
  obtain ⟨hd, rfl⟩ := hd
  exact Wp.step (fun p e s m args below meth c T L hx hZ hby hown X hH target ht => XS.ineg X.here hx rfl (hb hby hd) rfl ht) hr
theorem wp_ladd {x y : Int64} (hd : Dc bytes pc (.ladd) 1 pc')  (hr : Wp b l Z own nm bytes maxL ret R H k j pc' Ls (.long (x + y) :: st) Q) : Wp b l Z own nm bytes maxL ret R H k j pc Ls (.long y :: .long x :: st) Q := by
  obtain ⟨hd, rfl⟩ := hd
  exact Wp.step (fun p e s m args below meth c T L hx hZ hby hown X hH target ht => XT.ladd X.here hx rfl (hb hby hd) rfl ht) hr
theorem wp_lsub {x y : Int64} (hd : Dc bytes pc (.lsub) 1 pc')  (hr : Wp b l Z own nm bytes maxL ret R H k j pc' Ls (.long (x - y) :: st) Q) : Wp b l Z own nm bytes maxL ret R H k j pc Ls (.long y :: .long x :: st) Q := by
  obtain ⟨hd, rfl⟩ := hd
  exact Wp.step (fun p e s m args below meth c T L hx hZ hby hown X hH target ht => XT.lsub X.here hx rfl (hb hby hd) rfl ht) hr
theorem wp_lmul {x y : Int64} (hd : Dc bytes pc (.lmul) 1 pc')  (hr : Wp b l Z own nm bytes maxL ret R H k j pc' Ls (.long (x * y) :: st) Q) : Wp b l Z own nm bytes maxL ret R H k j pc Ls (.long y :: .long x :: st) Q := by
  obtain ⟨hd, rfl⟩ := hd
  exact Wp.step (fun p e s m args below meth c T L hx hZ hby hown X hH target ht => XT.lmul X.here hx rfl (hb hby hd) rfl ht) hr
theorem wp_land {x y : Int64} (hd : Dc bytes pc (.land) 1 pc')  (hr : Wp b l Z own nm bytes maxL ret R H k j pc' Ls (.long (x &&& y) :: st) Q) : Wp b l Z own nm bytes maxL ret R H k j pc Ls (.long y :: .long x :: st) Q := by
  obtain ⟨hd, rfl⟩ := hd
  exact Wp.step (fun p e s m args below meth c T L hx hZ hby hown X hH target ht => XT.land X.here hx rfl (hb hby hd) rfl ht) hr
theorem wp_lor {x y : Int64} (hd : Dc bytes pc (.lor) 1 pc')  (hr : Wp b l Z own nm bytes maxL ret R H k j pc' Ls (.long (x ||| y) :: st) Q) : Wp b l Z own nm bytes maxL ret R H k j pc Ls (.long y :: .long x :: st) Q := by
  obtain ⟨hd, rfl⟩ := hd
  exact Wp.step (fun p e s m args below meth c T L hx hZ hby hown X hH target ht => XT.lor X.here hx rfl (hb hby hd) rfl ht) hr
theorem wp_lxor {x y : Int64} (hd : Dc bytes pc (.lxor) 1 pc')  (hr : Wp b l Z own nm bytes maxL ret R H k j pc' Ls (.long (x ^^^ y) :: st) Q) : Wp b l Z own nm bytes maxL ret R H k j pc Ls (.long y :: .long x :: st) Q := by
  obtain ⟨hd, rfl⟩ := hd
  exact Wp.step (fun p e s m args below meth c T L hx hZ hby hown X hH target ht => XT.lxor X.here hx rfl (hb hby hd) rfl ht) hr
theorem wp_lshl {x : Int64} {y : Int32} (hd : Dc bytes pc (.lshl) 1 pc')  (hr : Wp b l Z own nm bytes maxL ret R H k j pc' Ls (.long (x <<< (y.toInt64 &&& 63)) :: st) Q) : Wp b l Z own nm bytes maxL ret R H k j pc Ls (.int y :: .long x :: st) Q := by
  obtain ⟨hd, rfl⟩ := hd
  exact Wp.step (fun p e s m args below meth c T L hx hZ hby hown X hH target ht => XT.lshl X.here hx rfl (hb hby hd) rfl ht) hr
theorem wp_lshr {x : Int64} {y : Int32} (hd : Dc bytes pc (.lshr) 1 pc')  (hr : Wp b l Z own nm bytes maxL ret R H k j pc' Ls (.long (x >>> (y.toInt64 &&& 63)) :: st) Q) : Wp b l Z own nm bytes maxL ret R H k j pc Ls (.int y :: .long x :: st) Q := by
  obtain ⟨hd, rfl⟩ := hd
  exact Wp.step (fun p e s m args below meth c T L hx hZ hby hown X hH target ht => XT.lshr X.here hx rfl (hb hby hd) rfl ht) hr
theorem wp_lushr {x : Int64} {y : Int32} (hd : Dc bytes pc (.lushr) 1 pc')  (hr : Wp b l Z own nm bytes maxL ret R H k j pc' Ls (.long (XT.ushrL x y) :: st) Q) : Wp b l Z own nm bytes maxL ret R H k j pc Ls (.int y :: .long x :: st) Q := by
  obtain ⟨hd, rfl⟩ := hd
  exact Wp.step (fun p e s m args below meth c T L hx hZ hby hown X hH target ht => XT.lushr X.here hx rfl (hb hby hd) rfl ht) hr
theorem wp_ldiv {x y : Int64} (hd : Dc bytes pc (.ldiv) 1 pc') (hy : y ≠ 0) (hr : Wp b l Z own nm bytes maxL ret R H k j pc' Ls (.long (x / y) :: st) Q) : Wp b l Z own nm bytes maxL ret R H k j pc Ls (.long y :: .long x :: st) Q := by
  obtain ⟨hd, rfl⟩ := hd
  exact Wp.step (fun p e s m args below meth c T L hx hZ hby hown X hH target ht => XT.ldiv X.here hx rfl (hb hby hd) rfl hy ht) hr
theorem wp_lrem {x y : Int64} (hd : Dc bytes pc (.lrem) 1 pc') (hy : y ≠ 0) (hr : Wp b l Z own nm bytes maxL ret R H k j pc' Ls (.long (x - (x / y) * y) :: st) Q) : Wp b l Z own nm bytes maxL ret R H k j pc Ls (.long y :: .long x :: st) Q := by
  obtain ⟨hd, rfl⟩ := hd
  exact Wp.step (fun p e s m args below meth c T L hx hZ hby hown X hH target ht => XT.lrem X.here hx rfl (hb hby hd) rfl hy ht) hr
theorem wp_lneg {x : Int64} (hd : Dc bytes pc (.lneg) 1 pc')  (hr : Wp b l Z own nm bytes maxL ret R H k j pc' Ls (.long (-x) :: st) Q) : Wp b l Z own nm bytes maxL ret R H k j pc Ls (.long x :: st) Q := by
  obtain ⟨hd, rfl⟩ := hd
  exact Wp.step (fun p e s m args below meth c T L hx hZ hby hown X hH target ht => XT.lneg X.here hx rfl (hb hby hd) rfl ht) hr
theorem wp_i2l {x : Int32} (hd : Dc bytes pc (.i2l) 1 pc')  (hr : Wp b l Z own nm bytes maxL ret R H k j pc' Ls (.long x.toInt64 :: st) Q) : Wp b l Z own nm bytes maxL ret R H k j pc Ls (.int x :: st) Q := by
  obtain ⟨hd, rfl⟩ := hd
  exact Wp.step (fun p e s m args below meth c T L hx hZ hby hown X hH target ht => XT.i2l X.here hx rfl (hb hby hd) rfl ht) hr
theorem wp_l2i {x : Int64} (hd : Dc bytes pc (.l2i) 1 pc')  (hr : Wp b l Z own nm bytes maxL ret R H k j pc' Ls (.int x.toInt32 :: st) Q) : Wp b l Z own nm bytes maxL ret R H k j pc Ls (.long x :: st) Q := by
  obtain ⟨hd, rfl⟩ := hd
  exact Wp.step (fun p e s m args below meth c T L hx hZ hby hown X hH target ht => XT.l2i X.here hx rfl (hb hby hd) rfl ht) hr
theorem wp_i2b {x : Int32} (hd : Dc bytes pc (.i2b) 1 pc')  (hr : Wp b l Z own nm bytes maxL ret R H k j pc' Ls (.int x.toInt8.toInt32 :: st) Q) : Wp b l Z own nm bytes maxL ret R H k j pc Ls (.int x :: st) Q := by
  obtain ⟨hd, rfl⟩ := hd
  exact Wp.step (fun p e s m args below meth c T L hx hZ hby hown X hH target ht => XT.i2b X.here hx rfl (hb hby hd) rfl ht) hr
theorem wp_i2c {x : Int32} (hd : Dc bytes pc (.i2c) 1 pc')  (hr : Wp b l Z own nm bytes maxL ret R H k j pc' Ls (.int x.toUInt32.toUInt16.toUInt32.toInt32 :: st) Q) : Wp b l Z own nm bytes maxL ret R H k j pc Ls (.int x :: st) Q := by
  obtain ⟨hd, rfl⟩ := hd
  exact Wp.step (fun p e s m args below meth c T L hx hZ hby hown X hH target ht => XT.i2c X.here hx rfl (hb hby hd) rfl ht) hr
theorem wp_i2s {x : Int32} (hd : Dc bytes pc (.i2s) 1 pc')  (hr : Wp b l Z own nm bytes maxL ret R H k j pc' Ls (.int x.toInt16.toInt32 :: st) Q) : Wp b l Z own nm bytes maxL ret R H k j pc Ls (.int x :: st) Q := by
  obtain ⟨hd, rfl⟩ := hd
  exact Wp.step (fun p e s m args below meth c T L hx hZ hby hown X hH target ht => XT.i2s X.here hx rfl (hb hby hd) rfl ht) hr
theorem wp_lcmp {x y : Int64} (hd : Dc bytes pc (.lcmp) 1 pc')  (hr : Wp b l Z own nm bytes maxL ret R H k j pc' Ls (.int (XT.cmpL x y) :: st) Q) : Wp b l Z own nm bytes maxL ret R H k j pc Ls (.long y :: .long x :: st) Q := by
  obtain ⟨hd, rfl⟩ := hd
  exact Wp.step (fun p e s m args below meth c T L hx hZ hby hown X hH target ht => XT.lcmp X.here hx rfl (hb hby hd) rfl ht) hr
theorem wp_iload_n {n : Fin 4} {v : Int32} (hd : Dc bytes pc (.iload_n n) 1 pc') (hl : Ls[n.val]? = some (.val (.int v))) (hr : Wp b l Z own nm bytes maxL ret R H k j pc' Ls (.int v :: st) Q) : Wp b l Z own nm bytes maxL ret R H k j pc Ls st Q := by
  obtain ⟨hd, rfl⟩ := hd
  exact Wp.step (fun p e s m args below meth c T L hx hZ hby hown X hH target ht => XS.iloadN X.here hx rfl (hb hby hd) hl ht) hr
theorem wp_iload {n : Nat} {v : Int32} (hd : Dc bytes pc (.iload n) 2 pc') (hl : Ls[n]? = some (.val (.int v))) (hr : Wp b l Z own nm bytes maxL ret R H k j pc' Ls (.int v :: st) Q) : Wp b l Z own nm bytes maxL ret R H k j pc Ls st Q := by
  obtain ⟨hd, rfl⟩ := hd
  exact Wp.step (fun p e s m args below meth c T L hx hZ hby hown X hH target ht => XS.iload X.here hx rfl (hb hby hd) hl ht) hr
theorem wp_lload_n {n : Fin 4} {v : Int64} (hd : Dc bytes pc (.lload_n n) 1 pc') (hl : Ls[n.val]? = some (.val (.long v))) (hr : Wp b l Z own nm bytes maxL ret R H k j pc' Ls (.long v :: st) Q) : Wp b l Z own nm bytes maxL ret R H k j pc Ls st Q := by
  obtain ⟨hd, rfl⟩ := hd
  exact Wp.step (fun p e s m args below meth c T L hx hZ hby hown X hH target ht => XT.lloadN X.here hx rfl (hb hby hd) hl ht) hr
theorem wp_lload {n : Nat} {v : Int64} (hd : Dc bytes pc (.lload n) 2 pc') (hl : Ls[n]? = some (.val (.long v))) (hr : Wp b l Z own nm bytes maxL ret R H k j pc' Ls (.long v :: st) Q) : Wp b l Z own nm bytes maxL ret R H k j pc Ls st Q := by
  obtain ⟨hd, rfl⟩ := hd
  exact Wp.step (fun p e s m args below meth c T L hx hZ hby hown X hH target ht => XT.lload X.here hx rfl (hb hby hd) hl ht) hr
theorem wp_aload_n {n : Fin 4} {v : Value} (hd : Dc bytes pc (.aload_n n) 1 pc') (hl : Ls[n.val]? = some (.val v)) (hv : v.isRef = true) (hr : Wp b l Z own nm bytes maxL ret R H k j pc' Ls (v :: st) Q) : Wp b l Z own nm bytes maxL ret R H k j pc Ls st Q := by
  obtain ⟨hd, rfl⟩ := hd
  exact Wp.step (fun p e s m args below meth c T L hx hZ hby hown X hH target ht => XS.aloadN X.here hx rfl (hb hby hd) hl hv ht) hr
theorem wp_aload {n : Nat} {v : Value} (hd : Dc bytes pc (.aload n) 2 pc') (hl : Ls[n]? = some (.val v)) (hv : v.isRef = true) (hr : Wp b l Z own nm bytes maxL ret R H k j pc' Ls (v :: st) Q) : Wp b l Z own nm bytes maxL ret R H k j pc Ls st Q := by
  obtain ⟨hd, rfl⟩ := hd
  exact Wp.step (fun p e s m args below meth c T L hx hZ hby hown X hH target ht => XS.aload X.here hx rfl (hb hby hd) hl hv ht) hr
theorem wp_istore_n {n : Fin 4} {x : Int32} (Ls' : Array Slot) (hd : Dc bytes pc (.istore_n n) 1 pc') (hl : storeLocals Ls n.val (.int x) = some Ls') (hr : Wp b l Z own nm bytes maxL ret R H k j pc' Ls' st Q) : Wp b l Z own nm bytes maxL ret R H k j pc Ls (.int x :: st) Q := by
  obtain ⟨hd, rfl⟩ := hd
  exact Wp.step (fun p e s m args below meth c T L hx hZ hby hown X hH target ht => XS.istoreN X.here hx rfl (hb hby hd) rfl hl ht) hr
theorem wp_istore {n : Nat} {x : Int32} (Ls' : Array Slot) (hd : Dc bytes pc (.istore n) 2 pc') (hl : storeLocals Ls n (.int x) = some Ls') (hr : Wp b l Z own nm bytes maxL ret R H k j pc' Ls' st Q) : Wp b l Z own nm bytes maxL ret R H k j pc Ls (.int x :: st) Q := by
  obtain ⟨hd, rfl⟩ := hd
  exact Wp.step (fun p e s m args below meth c T L hx hZ hby hown X hH target ht => XS.istore X.here hx rfl (hb hby hd) rfl hl ht) hr
theorem wp_lstore_n {n : Fin 4} {x : Int64} (Ls' : Array Slot) (hd : Dc bytes pc (.lstore_n n) 1 pc') (hl : storeLocals Ls n.val (.long x) = some Ls') (hr : Wp b l Z own nm bytes maxL ret R H k j pc' Ls' st Q) : Wp b l Z own nm bytes maxL ret R H k j pc Ls (.long x :: st) Q := by
  obtain ⟨hd, rfl⟩ := hd
  exact Wp.step (fun p e s m args below meth c T L hx hZ hby hown X hH target ht => XT.lstoreN X.here hx rfl (hb hby hd) rfl hl ht) hr
theorem wp_lstore {n : Nat} {x : Int64} (Ls' : Array Slot) (hd : Dc bytes pc (.lstore n) 2 pc') (hl : storeLocals Ls n (.long x) = some Ls') (hr : Wp b l Z own nm bytes maxL ret R H k j pc' Ls' st Q) : Wp b l Z own nm bytes maxL ret R H k j pc Ls (.long x :: st) Q := by
  obtain ⟨hd, rfl⟩ := hd
  exact Wp.step (fun p e s m args below meth c T L hx hZ hby hown X hH target ht => XT.lstore X.here hx rfl (hb hby hd) rfl hl ht) hr
theorem wp_astore_n {n : Fin 4} {x : Value} (Ls' : Array Slot) (hd : Dc bytes pc (.astore_n n) 1 pc') (hv : x.isRef = true) (hl : storeLocals Ls n.val x = some Ls') (hr : Wp b l Z own nm bytes maxL ret R H k j pc' Ls' st Q) : Wp b l Z own nm bytes maxL ret R H k j pc Ls (x :: st) Q := by
  obtain ⟨hd, rfl⟩ := hd
  exact Wp.step (fun p e s m args below meth c T L hx hZ hby hown X hH target ht => XS.astoreN X.here hx rfl (hb hby hd) rfl hv hl ht) hr
theorem wp_astore {n : Nat} {x : Value} (Ls' : Array Slot) (hd : Dc bytes pc (.astore n) 2 pc') (hv : x.isRef = true) (hl : storeLocals Ls n x = some Ls') (hr : Wp b l Z own nm bytes maxL ret R H k j pc' Ls' st Q) : Wp b l Z own nm bytes maxL ret R H k j pc Ls (x :: st) Q := by
  obtain ⟨hd, rfl⟩ := hd
  exact Wp.step (fun p e s m args below meth c T L hx hZ hby hown X hH target ht => XS.astore X.here hx rfl (hb hby hd) rfl hv hl ht) hr
theorem wp_iinc {n : Nat} {c : Int} {x : Int32} (v : Int32) (Ls' : Array Slot) (hd : Dc bytes pc (.iinc n c) 3 pc') (hv : Int32.ofInt c = v) (hl : Ls[n]? = some (.val (.int x))) (hl' : storeLocals Ls n (.int (x + v)) = some Ls') (hr : Wp b l Z own nm bytes maxL ret R H k j pc' Ls' st Q) : Wp b l Z own nm bytes maxL ret R H k j pc Ls st Q := by
  obtain ⟨hd, rfl⟩ := hd
  exact Wp.step (fun p e s m args below meth c T L hx hZ hby hown X hH target ht => XT.iincV X.here hx rfl v (hb hby hd) hv hl hl' ht) hr
theorem wp_iconst {i : Int} (v : Int32) (hd : Dc bytes pc (.iconst i) 1 pc') (hv : Int32.ofInt i = v) (hr : Wp b l Z own nm bytes maxL ret R H k j pc' Ls (.int v :: st) Q) : Wp b l Z own nm bytes maxL ret R H k j pc Ls st Q := by
  obtain ⟨hd, rfl⟩ := hd
  exact Wp.step (fun p e s m args below meth c T L hx hZ hby hown X hH target ht => XT.iconstV X.here hx rfl v (hb hby hd) hv ht) hr
theorem wp_bipush {i : Int} (v : Int32) (hd : Dc bytes pc (.bipush i) 2 pc') (hv : (Int8.ofInt i).toInt32 = v) (hr : Wp b l Z own nm bytes maxL ret R H k j pc' Ls (.int v :: st) Q) : Wp b l Z own nm bytes maxL ret R H k j pc Ls st Q := by
  obtain ⟨hd, rfl⟩ := hd
  exact Wp.step (fun p e s m args below meth c T L hx hZ hby hown X hH target ht => XT.bipushV X.here hx rfl v (hb hby hd) hv ht) hr
theorem wp_sipush {i : Int} (v : Int32) (hd : Dc bytes pc (.sipush i) 3 pc') (hv : (Int16.ofInt i).toInt32 = v) (hr : Wp b l Z own nm bytes maxL ret R H k j pc' Ls (.int v :: st) Q) : Wp b l Z own nm bytes maxL ret R H k j pc Ls st Q := by
  obtain ⟨hd, rfl⟩ := hd
  exact Wp.step (fun p e s m args below meth c T L hx hZ hby hown X hH target ht => XT.sipushV X.here hx rfl v (hb hby hd) hv ht) hr
theorem wp_lconst {i : Fin 2} (v : Int64) (hd : Dc bytes pc (.lconst i) 1 pc') (hv : Int64.ofNat i = v) (hr : Wp b l Z own nm bytes maxL ret R H k j pc' Ls (.long v :: st) Q) : Wp b l Z own nm bytes maxL ret R H k j pc Ls st Q := by
  obtain ⟨hd, rfl⟩ := hd
  exact Wp.step (fun p e s m args below meth c T L hx hZ hby hown X hH target ht => XT.lconstV X.here hx rfl v (hb hby hd) hv ht) hr
theorem wp_aconst_null  (hd : Dc bytes pc (.aconst_null) 1 pc')  (hr : Wp b l Z own nm bytes maxL ret R H k j pc' Ls (.null :: st) Q) : Wp b l Z own nm bytes maxL ret R H k j pc Ls st Q := by
  obtain ⟨hd, rfl⟩ := hd
  exact Wp.step (fun p e s m args below meth c T L hx hZ hby hown X hH target ht => XS.aconstNull X.here hx rfl (hb hby hd)  ht) hr
theorem wp_dup {x : Value} (hd : Dc bytes pc (.dup) 1 pc') (hc : x.category = 1) (hr : Wp b l Z own nm bytes maxL ret R H k j pc' Ls (x :: x :: st) Q) : Wp b l Z own nm bytes maxL ret R H k j pc Ls (x :: st) Q := by
  obtain ⟨hd, rfl⟩ := hd
  exact Wp.step (fun p e s m args below meth c T L hx hZ hby hown X hH target ht => XS.dup X.here hx rfl (hb hby hd) rfl hc ht) hr
theorem wp_pop {x : Value} (hd : Dc bytes pc (.pop) 1 pc') (hc : x.category = 1) (hr : Wp b l Z own nm bytes maxL ret R H k j pc' Ls st Q) : Wp b l Z own nm bytes maxL ret R H k j pc Ls (x :: st) Q := by
  obtain ⟨hd, rfl⟩ := hd
  exact Wp.step (fun p e s m args below meth c T L hx hZ hby hown X hH target ht => XT.pop X.here hx rfl (hb hby hd) rfl hc ht) hr
theorem wp_dup_x1 {x y : Value} (hd : Dc bytes pc (.dup_x1) 1 pc') (hc : x.category = 1) (hc' : y.category = 1) (hr : Wp b l Z own nm bytes maxL ret R H k j pc' Ls (x :: y :: x :: st) Q) : Wp b l Z own nm bytes maxL ret R H k j pc Ls (x :: y :: st) Q := by
  obtain ⟨hd, rfl⟩ := hd
  exact Wp.step (fun p e s m args below meth c T L hx hZ hby hown X hH target ht => XT.dupX1 X.here hx rfl (hb hby hd) rfl hc hc' ht) hr
theorem wp_dup2 {x y : Value} (hd : Dc bytes pc (.dup2) 1 pc') (hc : x.category = 1) (hc' : y.category = 1) (hr : Wp b l Z own nm bytes maxL ret R H k j pc' Ls (x :: y :: x :: y :: st) Q) : Wp b l Z own nm bytes maxL ret R H k j pc Ls (x :: y :: st) Q := by
  obtain ⟨hd, rfl⟩ := hd
  exact Wp.step (fun p e s m args below meth c T L hx hZ hby hown X hH target ht => XT.dup2 X.here hx rfl (hb hby hd) rfl hc hc' ht) hr
theorem wp_dup2L {x : Int64} (hd : Dc bytes pc (.dup2) 1 pc')  (hr : Wp b l Z own nm bytes maxL ret R H k j pc' Ls (.long x :: .long x :: st) Q) : Wp b l Z own nm bytes maxL ret R H k j pc Ls (.long x :: st) Q := by
  obtain ⟨hd, rfl⟩ := hd
  exact Wp.step (fun p e s m args below meth c T L hx hZ hby hown X hH target ht => XT.dup2L X.here hx rfl (hb hby hd) rfl ht) hr
theorem wp_ldcI {i : Nat} {v : Int32} (hd : Dc bytes pc (.ldc i) 2 pc') (w : (Cond.constant own i v).before a0 Z = true) (hr : Wp b l Z own nm bytes maxL ret R H k j pc' Ls (.int v :: st) Q) : Wp b l Z own nm bytes maxL ret R H k j pc Ls st Q := by
  obtain ⟨hd, rfl⟩ := hd
  exact Wp.step (fun p e s m args below meth c T L hx hZ hby hown X hH target ht => Jvm.Stand.ldcI X hx hown (mvT hZ w) rfl (hb hby hd) ht) hr
theorem wp_ldcWI {i : Nat} {v : Int32} (hd : Dc bytes pc (.ldc_w i) 3 pc') (w : (Cond.constant own i v).before a0 Z = true) (hr : Wp b l Z own nm bytes maxL ret R H k j pc' Ls (.int v :: st) Q) : Wp b l Z own nm bytes maxL ret R H k j pc Ls st Q := by
  obtain ⟨hd, rfl⟩ := hd
  exact Wp.step (fun p e s m args below meth c T L hx hZ hby hown X hH target ht => Jvm.Stand.ldcWI X hx hown (mvT hZ w) rfl (hb hby hd) ht) hr
theorem wp_ldc2J {i : Nat} {v : Int64} (hd : Dc bytes pc (.ldc2_w i) 3 pc') (w : (Cond.constantLong own i v).before a0 Z = true) (hr : Wp b l Z own nm bytes maxL ret R H k j pc' Ls (.long v :: st) Q) : Wp b l Z own nm bytes maxL ret R H k j pc Ls st Q := by
  obtain ⟨hd, rfl⟩ := hd
  exact Wp.step (fun p e s m args below meth c T L hx hZ hby hown X hH target ht => Jvm.Stand.ldc2J X hx hown (mvT hZ w) rfl (hb hby hd) ht) hr
theorem wp_instNull {i : Nat} (hd : Dc bytes pc (.instanceof i) 3 pc')  (hr : Wp b l Z own nm bytes maxL ret R H k j pc' Ls (.int 0 :: st) Q) : Wp b l Z own nm bytes maxL ret R H k j pc Ls (.null :: st) Q := by
  obtain ⟨hd, rfl⟩ := hd
  exact Wp.step (fun p e s m args below meth c T L hx hZ hby hown X hH target ht => X.instanceofNull hx (g := mkF m pc Ls (.null :: st)) rfl rfl (hb hby hd) _ ht) hr
theorem wp_castNull {i : Nat} (hd : Dc bytes pc (.checkcast i) 3 pc')  (hr : Wp b l Z own nm bytes maxL ret R H k j pc' Ls (.null :: st) Q) : Wp b l Z own nm bytes maxL ret R H k j pc Ls (.null :: st) Q := by
  obtain ⟨hd, rfl⟩ := hd
  exact Wp.step (fun p e s m args below meth c T L hx hZ hby hown X hH target ht => X.checkcastNull hx (g := mkF m pc Ls (.null :: st)) rfl rfl (hb hby hd) _ ht) hr
theorem wp_goto {o : Int} {n pc'' : Nat} (hd : Dc bytes pc (.goto o) 3 n) (ht : Tg pc o pc'') (hr : Wp b l Z own nm bytes maxL ret R H k j pc'' Ls st Q) : Wp b l Z own nm bytes maxL ret R H k j pc Ls st Q :=
  Wp.step (fun p e s m args below meth c T L hx hZ hby hown X hH target h => XS.goto X.here hx rfl rfl (hb hby hd.1) ht.1 ht.2 h) hr
theorem wp_icmp {cd : ClassFile.Cond} {o : Int} {x y : Int32} {pc'' : Nat} (hd : Dc bytes pc (.if_icmp cd o) 3 pc') (ht : Tg pc o pc'') (hy : if_icmp.holds cd x y = true → Wp b l Z own nm bytes maxL ret R H k j pc'' Ls st Q) (hn : if_icmp.holds cd x y = false → Wp b l Z own nm bytes maxL ret R H k j pc' Ls st Q) : Wp b l Z own nm bytes maxL ret R H k j pc Ls (.int y :: .int x :: st) Q := by
  obtain ⟨hd, rfl⟩ := hd
  cases hc : if_icmp.holds cd x y with
  | true => exact Wp.step (fun p e s m args below meth c T L hx hZ hby hown X hH target h => XS.icmpYes X.here hx rfl rfl (hb hby hd) rfl hc ht.1 ht.2 h) (hy hc)
  | false => exact Wp.step (fun p e s m args below meth c T L hx hZ hby hown X hH target h => XS.icmpNo X.here hx rfl (hb hby hd) rfl hc h) (hn hc)
theorem wp_if {cd : ClassFile.Cond} {o : Int} {x : Int32} {pc'' : Nat} (hd : Dc bytes pc (.ifCond cd o) 3 pc') (ht : Tg pc o pc'') (hy : ifCond.holds cd x = true → Wp b l Z own nm bytes maxL ret R H k j pc'' Ls st Q) (hn : ifCond.holds cd x = false → Wp b l Z own nm bytes maxL ret R H k j pc' Ls st Q) : Wp b l Z own nm bytes maxL ret R H k j pc Ls (.int x :: st) Q := by
  obtain ⟨hd, rfl⟩ := hd
  cases hc : ifCond.holds cd x with
  | true => exact Wp.step (fun p e s m args below meth c T L hx hZ hby hown X hH target h => XS.ifYes X.here hx rfl rfl (hb hby hd) rfl hc ht.1 ht.2 h) (hy hc)
  | false => exact Wp.step (fun p e s m args below meth c T L hx hZ hby hown X hH target h => XS.ifNo X.here hx rfl (hb hby hd) rfl hc h) (hn hc)
theorem icmp_holds (cd : ClassFile.Cond) (x y : Int32) : (if_icmp.holds .eq x y = decide (x = y)) ∧ (if_icmp.holds .ne x y = !decide (x = y)) ∧ (if_icmp.holds .lt x y = decide (x < y)) ∧ (if_icmp.holds .ge x y = !decide (x < y)) ∧ (if_icmp.holds .gt x y = decide (y < x)) ∧ (if_icmp.holds .le x y = !decide (y < x)) := by
  refine ⟨?_, ?_, ?_, ?_, ?_, ?_⟩
  · by_cases h : x = y <;> simp [h, if_icmp.holds]
  · by_cases h : x = y <;> simp [h, if_icmp.holds]
  · by_cases h : x < y <;> simp [h, if_icmp.holds]
  · by_cases h : x < y
    · simp [h, (tlt h).2.1]
    · simp [h, (flt h).2.1]
  · by_cases h : y < x
    · simp [h, (tlt h).2.2.1]
    · simp [h, (flt h).2.2.1]
  · by_cases h : y < x
    · simp [h, (tlt h).2.2.2]
    · simp [h, (flt h).2.2.2]
theorem wp_icmp_eq {o : Int} {x y : Int32} {pc'' : Nat} (hd : Dc bytes pc (.if_icmp .eq o) 3 pc') (ht : Tg pc o pc'') (hy : x = y → Wp b l Z own nm bytes maxL ret R H k j pc'' Ls st Q) (hn : ¬ x = y → Wp b l Z own nm bytes maxL ret R H k j pc' Ls st Q) : Wp b l Z own nm bytes maxL ret R H k j pc Ls (.int y :: .int x :: st) Q :=
  wp_icmp hd ht (fun h => hy (by rw [(icmp_holds .eq x y).1] at h; simpa using h)) (fun h => hn (by rw [(icmp_holds .eq x y).1] at h; simpa using h))
theorem wp_if_eq {o : Int} {x : Int32} {pc'' : Nat} (hd : Dc bytes pc (.ifCond .eq o) 3 pc') (ht : Tg pc o pc'') (hy : x = 0 → Wp b l Z own nm bytes maxL ret R H k j pc'' Ls st Q) (hn : ¬ x = 0 → Wp b l Z own nm bytes maxL ret R H k j pc' Ls st Q) : Wp b l Z own nm bytes maxL ret R H k j pc Ls (.int x :: st) Q :=
  wp_if hd ht (fun h => hy (by rw [if0, (icmp_holds .eq x 0).1] at h; simpa using h)) (fun h => hn (by rw [if0, (icmp_holds .eq x 0).1] at h; simpa using h))
theorem wp_icmp_ne {o : Int} {x y : Int32} {pc'' : Nat} (hd : Dc bytes pc (.if_icmp .ne o) 3 pc') (ht : Tg pc o pc'') (hy : ¬ x = y → Wp b l Z own nm bytes maxL ret R H k j pc'' Ls st Q) (hn : x = y → Wp b l Z own nm bytes maxL ret R H k j pc' Ls st Q) : Wp b l Z own nm bytes maxL ret R H k j pc Ls (.int y :: .int x :: st) Q :=
  wp_icmp hd ht (fun h => hy (by rw [(icmp_holds .eq x y).2.1] at h; simpa using h)) (fun h => hn (by rw [(icmp_holds .eq x y).2.1] at h; simpa using h))
theorem wp_if_ne {o : Int} {x : Int32} {pc'' : Nat} (hd : Dc bytes pc (.ifCond .ne o) 3 pc') (ht : Tg pc o pc'') (hy : ¬ x = 0 → Wp b l Z own nm bytes maxL ret R H k j pc'' Ls st Q) (hn : x = 0 → Wp b l Z own nm bytes maxL ret R H k j pc' Ls st Q) : Wp b l Z own nm bytes maxL ret R H k j pc Ls (.int x :: st) Q :=
  wp_if hd ht (fun h => hy (by rw [if0, (icmp_holds .eq x 0).2.1] at h; simpa using h)) (fun h => hn (by rw [if0, (icmp_holds .eq x 0).2.1] at h; simpa using h))
theorem wp_icmp_lt {o : Int} {x y : Int32} {pc'' : Nat} (hd : Dc bytes pc (.if_icmp .lt o) 3 pc') (ht : Tg pc o pc'') (hy : x < y → Wp b l Z own nm bytes maxL ret R H k j pc'' Ls st Q) (hn : ¬ x < y → Wp b l Z own nm bytes maxL ret R H k j pc' Ls st Q) : Wp b l Z own nm bytes maxL ret R H k j pc Ls (.int y :: .int x :: st) Q :=
  wp_icmp hd ht (fun h => hy (by rw [(icmp_holds .eq x y).2.2.1] at h; simpa using h)) (fun h => hn (by rw [(icmp_holds .eq x y).2.2.1] at h; simpa using h))
theorem wp_if_lt {o : Int} {x : Int32} {pc'' : Nat} (hd : Dc bytes pc (.ifCond .lt o) 3 pc') (ht : Tg pc o pc'') (hy : x < 0 → Wp b l Z own nm bytes maxL ret R H k j pc'' Ls st Q) (hn : ¬ x < 0 → Wp b l Z own nm bytes maxL ret R H k j pc' Ls st Q) : Wp b l Z own nm bytes maxL ret R H k j pc Ls (.int x :: st) Q :=
  wp_if hd ht (fun h => hy (by rw [if0, (icmp_holds .eq x 0).2.2.1] at h; simpa using h)) (fun h => hn (by rw [if0, (icmp_holds .eq x 0).2.2.1] at h; simpa using h))
theorem wp_icmp_ge {o : Int} {x y : Int32} {pc'' : Nat} (hd : Dc bytes pc (.if_icmp .ge o) 3 pc') (ht : Tg pc o pc'') (hy : ¬ x < y → Wp b l Z own nm bytes maxL ret R H k j pc'' Ls st Q) (hn : x < y → Wp b l Z own nm bytes maxL ret R H k j pc' Ls st Q) : Wp b l Z own nm bytes maxL ret R H k j pc Ls (.int y :: .int x :: st) Q :=
  wp_icmp hd ht (fun h => hy (by rw [(icmp_holds .eq x y).2.2.2.1] at h; simpa using h)) (fun h => hn (by rw [(icmp_holds .eq x y).2.2.2.1] at h; simpa using h))
theorem wp_if_ge {o : Int} {x : Int32} {pc'' : Nat} (hd : Dc bytes pc (.ifCond .ge o) 3 pc') (ht : Tg pc o pc'') (hy : ¬ x < 0 → Wp b l Z own nm bytes maxL ret R H k j pc'' Ls st Q) (hn : x < 0 → Wp b l Z own nm bytes maxL ret R H k j pc' Ls st Q) : Wp b l Z own nm bytes maxL ret R H k j pc Ls (.int x :: st) Q :=
  wp_if hd ht (fun h => hy (by rw [if0, (icmp_holds .eq x 0).2.2.2.1] at h; simpa using h)) (fun h => hn (by rw [if0, (icmp_holds .eq x 0).2.2.2.1] at h; simpa using h))
theorem wp_icmp_gt {o : Int} {x y : Int32} {pc'' : Nat} (hd : Dc bytes pc (.if_icmp .gt o) 3 pc') (ht : Tg pc o pc'') (hy : y < x → Wp b l Z own nm bytes maxL ret R H k j pc'' Ls st Q) (hn : ¬ y < x → Wp b l Z own nm bytes maxL ret R H k j pc' Ls st Q) : Wp b l Z own nm bytes maxL ret R H k j pc Ls (.int y :: .int x :: st) Q :=
  wp_icmp hd ht (fun h => hy (by rw [(icmp_holds .eq x y).2.2.2.2.1] at h; simpa using h)) (fun h => hn (by rw [(icmp_holds .eq x y).2.2.2.2.1] at h; simpa using h))
theorem wp_if_gt {o : Int} {x : Int32} {pc'' : Nat} (hd : Dc bytes pc (.ifCond .gt o) 3 pc') (ht : Tg pc o pc'') (hy : 0 < x → Wp b l Z own nm bytes maxL ret R H k j pc'' Ls st Q) (hn : ¬ 0 < x → Wp b l Z own nm bytes maxL ret R H k j pc' Ls st Q) : Wp b l Z own nm bytes maxL ret R H k j pc Ls (.int x :: st) Q :=
  wp_if hd ht (fun h => hy (by rw [if0, (icmp_holds .eq x 0).2.2.2.2.1] at h; simpa using h)) (fun h => hn (by rw [if0, (icmp_holds .eq x 0).2.2.2.2.1] at h; simpa using h))
theorem wp_icmp_le {o : Int} {x y : Int32} {pc'' : Nat} (hd : Dc bytes pc (.if_icmp .le o) 3 pc') (ht : Tg pc o pc'') (hy : ¬ y < x → Wp b l Z own nm bytes maxL ret R H k j pc'' Ls st Q) (hn : y < x → Wp b l Z own nm bytes maxL ret R H k j pc' Ls st Q) : Wp b l Z own nm bytes maxL ret R H k j pc Ls (.int y :: .int x :: st) Q :=
  wp_icmp hd ht (fun h => hy (by rw [(icmp_holds .eq x y).2.2.2.2.2] at h; simpa using h)) (fun h => hn (by rw [(icmp_holds .eq x y).2.2.2.2.2] at h; simpa using h))
theorem wp_if_le {o : Int} {x : Int32} {pc'' : Nat} (hd : Dc bytes pc (.ifCond .le o) 3 pc') (ht : Tg pc o pc'') (hy : ¬ 0 < x → Wp b l Z own nm bytes maxL ret R H k j pc'' Ls st Q) (hn : 0 < x → Wp b l Z own nm bytes maxL ret R H k j pc' Ls st Q) : Wp b l Z own nm bytes maxL ret R H k j pc Ls (.int x :: st) Q :=
  wp_if hd ht (fun h => hy (by rw [if0, (icmp_holds .eq x 0).2.2.2.2.2] at h; simpa using h)) (fun h => hn (by rw [if0, (icmp_holds .eq x 0).2.2.2.2.2] at h; simpa using h))
theorem cmpL_0 (x y : Int64) : (XT.cmpL x y = 0 ↔ x = y) ∧ (XT.cmpL x y < 0 ↔ x < y) ∧ (0 < XT.cmpL x y ↔ y < x) := by
  unfold XT.cmpL
  by_cases h1 : y < x
  · have h2 : ¬ x = y := by rintro rfl; exact absurd h1 (by simp [Int64.lt_iff_toInt_lt])
    have h3 : ¬ x < y := by rw [Int64.lt_iff_toInt_lt] at h1 ⊢; omega
    simp [h1, h2, h3]
  · by_cases h2 : x = y
    · subst h2; simp [Int64.lt_iff_toInt_lt]
    · have h3 : x < y := by rw [Int64.lt_iff_toInt_lt] at h1 ⊢; have := mt Int64.toInt_inj.mp h2; omega
      simp [h1, h2, h3]
theorem wp_lcmp_eq {o : Int} {x y : Int64} {pc1 pc'' : Nat} (hd0 : Dc bytes pc .lcmp 1 pc1) (hd : Dc bytes pc1 (.ifCond .eq o) 3 pc') (ht : Tg pc1 o pc'') (hy : x = y → Wp b l Z own nm bytes maxL ret R H k j pc'' Ls st Q) (hn : ¬ x = y → Wp b l Z own nm bytes maxL ret R H k j pc' Ls st Q) : Wp b l Z own nm bytes maxL ret R H k j pc Ls (.long y :: .long x :: st) Q :=
  wp_lcmp hd0 (wp_if_eq hd ht (fun h => hy (by rw [(cmpL_0 x y).1] at h; exact h)) (fun h => hn (by rw [(cmpL_0 x y).1] at h; exact h)))
theorem wp_lcmp_ne {o : Int} {x y : Int64} {pc1 pc'' : Nat} (hd0 : Dc bytes pc .lcmp 1 pc1) (hd : Dc bytes pc1 (.ifCond .ne o) 3 pc') (ht : Tg pc1 o pc'') (hy : ¬ x = y → Wp b l Z own nm bytes maxL ret R H k j pc'' Ls st Q) (hn : x = y → Wp b l Z own nm bytes maxL ret R H k j pc' Ls st Q) : Wp b l Z own nm bytes maxL ret R H k j pc Ls (.long y :: .long x :: st) Q :=
  wp_lcmp hd0 (wp_if_ne hd ht (fun h => hy (by rw [(cmpL_0 x y).1] at h; exact h)) (fun h => hn (by rw [(cmpL_0 x y).1] at h; exact h)))
theorem wp_lcmp_lt {o : Int} {x y : Int64} {pc1 pc'' : Nat} (hd0 : Dc bytes pc .lcmp 1 pc1) (hd : Dc bytes pc1 (.ifCond .lt o) 3 pc') (ht : Tg pc1 o pc'') (hy : x < y → Wp b l Z own nm bytes maxL ret R H k j pc'' Ls st Q) (hn : ¬ x < y → Wp b l Z own nm bytes maxL ret R H k j pc' Ls st Q) : Wp b l Z own nm bytes maxL ret R H k j pc Ls (.long y :: .long x :: st) Q :=
  wp_lcmp hd0 (wp_if_lt hd ht (fun h => hy (by rw [(cmpL_0 x y).2.1] at h; exact h)) (fun h => hn (by rw [(cmpL_0 x y).2.1] at h; exact h)))
theorem wp_lcmp_ge {o : Int} {x y : Int64} {pc1 pc'' : Nat} (hd0 : Dc bytes pc .lcmp 1 pc1) (hd : Dc bytes pc1 (.ifCond .ge o) 3 pc') (ht : Tg pc1 o pc'') (hy : ¬ x < y → Wp b l Z own nm bytes maxL ret R H k j pc'' Ls st Q) (hn : x < y → Wp b l Z own nm bytes maxL ret R H k j pc' Ls st Q) : Wp b l Z own nm bytes maxL ret R H k j pc Ls (.long y :: .long x :: st) Q :=
  wp_lcmp hd0 (wp_if_ge hd ht (fun h => hy (by rw [(cmpL_0 x y).2.1] at h; exact h)) (fun h => hn (by rw [(cmpL_0 x y).2.1] at h; exact h)))
theorem wp_lcmp_gt {o : Int} {x y : Int64} {pc1 pc'' : Nat} (hd0 : Dc bytes pc .lcmp 1 pc1) (hd : Dc bytes pc1 (.ifCond .gt o) 3 pc') (ht : Tg pc1 o pc'') (hy : y < x → Wp b l Z own nm bytes maxL ret R H k j pc'' Ls st Q) (hn : ¬ y < x → Wp b l Z own nm bytes maxL ret R H k j pc' Ls st Q) : Wp b l Z own nm bytes maxL ret R H k j pc Ls (.long y :: .long x :: st) Q :=
  wp_lcmp hd0 (wp_if_gt hd ht (fun h => hy (by rw [(cmpL_0 x y).2.2] at h; exact h)) (fun h => hn (by rw [(cmpL_0 x y).2.2] at h; exact h)))
theorem wp_lcmp_le {o : Int} {x y : Int64} {pc1 pc'' : Nat} (hd0 : Dc bytes pc .lcmp 1 pc1) (hd : Dc bytes pc1 (.ifCond .le o) 3 pc') (ht : Tg pc1 o pc'') (hy : ¬ y < x → Wp b l Z own nm bytes maxL ret R H k j pc'' Ls st Q) (hn : y < x → Wp b l Z own nm bytes maxL ret R H k j pc' Ls st Q) : Wp b l Z own nm bytes maxL ret R H k j pc Ls (.long y :: .long x :: st) Q :=
  wp_lcmp hd0 (wp_if_le hd ht (fun h => hy (by rw [(cmpL_0 x y).2.2] at h; exact h)) (fun h => hn (by rw [(cmpL_0 x y).2.2] at h; exact h)))
theorem wp_ifnull_y {o : Int} {n pc'' : Nat} (hd : Dc bytes pc (.ifnull o) 3 n) (ht : Tg pc o pc'') (hr : Wp b l Z own nm bytes maxL ret R H k j pc'' Ls st Q) : Wp b l Z own nm bytes maxL ret R H k j pc Ls (.null :: st) Q :=
  Wp.step (fun p e s m args below meth c T L hx hZ hby hown X hH target h => XS.ifnullYes X.here hx rfl rfl (hb hby hd.1) rfl ht.1 ht.2 h) hr
theorem wp_ifnull_n {o : Int} {x : Addr} (hd : Dc bytes pc (.ifnull o) 3 pc') (hr : Wp b l Z own nm bytes maxL ret R H k j pc' Ls st Q) : Wp b l Z own nm bytes maxL ret R H k j pc Ls (.ref x :: st) Q := by
  obtain ⟨hd, rfl⟩ := hd
  exact Wp.step (fun p e s m args below meth c T L hx hZ hby hown X hH target h => XS.ifnullNo X.here hx rfl (hb hby hd) rfl h) hr
theorem wp_ifnonnull_y {o : Int} {x : Addr} {n pc'' : Nat} (hd : Dc bytes pc (.ifnonnull o) 3 n) (ht : Tg pc o pc'') (hr : Wp b l Z own nm bytes maxL ret R H k j pc'' Ls st Q) : Wp b l Z own nm bytes maxL ret R H k j pc Ls (.ref x :: st) Q :=
  Wp.step (fun p e s m args below meth c T L hx hZ hby hown X hH target h => XT.ifnonnullYes X.here hx rfl rfl (hb hby hd.1) rfl ht.1 ht.2 h) hr
theorem wp_ifnonnull_n {o : Int} (hd : Dc bytes pc (.ifnonnull o) 3 pc') (hr : Wp b l Z own nm bytes maxL ret R H k j pc' Ls st Q) : Wp b l Z own nm bytes maxL ret R H k j pc Ls (.null :: st) Q := by
  obtain ⟨hd, rfl⟩ := hd
  exact Wp.step (fun p e s m args below meth c T L hx hZ hby hown X hH target h => XT.ifnonnullNo X.here hx rfl (hb hby hd) rfl h) hr
theorem wp_acmp {cd : ClassFile.ACond} {o : Int} {x y : Value} {pc'' : Nat} (hd : Dc bytes pc (.if_acmp cd o) 3 pc') (ht : Tg pc o pc'') (h1 : x.isRef = true) (h2 : y.isRef = true) (hy : acV cd (decide (x = y)) = true → Wp b l Z own nm bytes maxL ret R H k j pc'' Ls st Q) (hn : acV cd (decide (x = y)) = false → Wp b l Z own nm bytes maxL ret R H k j pc' Ls st Q) : Wp b l Z own nm bytes maxL ret R H k j pc Ls (y :: x :: st) Q := by
  obtain ⟨hd, rfl⟩ := hd
  cases hc : acV cd (decide (x = y)) with
  | true => exact Wp.step (fun p e s m args below meth c T L hx hZ hby hown X hH target h => acmp X hx rfl h1 h2 (pc0 := pc) rfl (hb hby hd) rfl rfl ht.1 (by rw [if_pos hc]; exact ht.2.symm) h) (hy hc)
  | false => exact Wp.step (fun p e s m args below meth c T L hx hZ hby hown X hH target h => acmp X hx rfl h1 h2 (pc0 := pc) rfl (hb hby hd) rfl rfl ht.1 (by rw [hc]; rfl) h) (hn hc)
theorem wp_acmp_eq {o : Int} {x y : Value} {pc'' : Nat} (hd : Dc bytes pc (.if_acmp .eq o) 3 pc') (ht : Tg pc o pc'') (h1 : x.isRef = true) (h2 : y.isRef = true) (hy : x = y → Wp b l Z own nm bytes maxL ret R H k j pc'' Ls st Q) (hn : ¬ x = y → Wp b l Z own nm bytes maxL ret R H k j pc' Ls st Q) : Wp b l Z own nm bytes maxL ret R H k j pc Ls (y :: x :: st) Q :=
  wp_acmp hd ht h1 h2 (fun h => hy (by simpa [acV] using h)) (fun h => hn (by simpa [acV] using h))
theorem wp_acmp_ne {o : Int} {x y : Value} {pc'' : Nat} (hd : Dc bytes pc (.if_acmp .ne o) 3 pc') (ht : Tg pc o pc'') (h1 : x.isRef = true) (h2 : y.isRef = true) (hy : ¬ x = y → Wp b l Z own nm bytes maxL ret R H k j pc'' Ls st Q) (hn : x = y → Wp b l Z own nm bytes maxL ret R H k j pc' Ls st Q) : Wp b l Z own nm bytes maxL ret R H k j pc Ls (y :: x :: st) Q :=
  wp_acmp hd ht h1 h2 (fun h => hy (by simpa [acV] using h)) (fun h => hn (by simpa [acV] using h))
theorem wp_return  (hd : Dc bytes pc .return_ 1 pc') (hr : ret = none) (hk : k ≤ R.cells) (hj : j ≤ R.slots) (hQ : Q none H) : Wp b l Z own nm bytes maxL ret R H k j pc Ls [] Q :=
  fun p e s vm0 k0 m args below meth c T L hx hZ hS hkz hby hml hown hnm hret X N hH hB => ⟨T, none, L, k, j, vm0, k0, H, ⟨hS, hkz, fun _ => rfl⟩, X, ⟨hk, hj, Nat.le_refl _⟩, N, hH, fun h => by first | rfl | (rw [hr] at h; cases h), hQ, fun fs hl => X.returnOut hx (hret.trans hr) (hb hby hd.1) hl⟩
theorem wp_ireturn {x : Int32} (hd : Dc bytes pc .ireturn 1 pc') (hr : ret = some .int) (hk : k ≤ R.cells) (hj : j ≤ R.slots) (hQ : Q (some (.int x)) H) : Wp b l Z own nm bytes maxL ret R H k j pc Ls (.int x :: st) Q :=
  fun p e s vm0 k0 m args below meth c T L hx hZ hS hkz hby hml hown hnm hret X N hH hB => ⟨T, (some (.int x)), L, k, j, vm0, k0, H, ⟨hS, hkz, fun _ => rfl⟩, X, ⟨hk, hj, Nat.le_refl _⟩, N, hH, fun h => by first | rfl | (rw [hr] at h; cases h), hQ, fun fs hl => retOut X hx (hret.trans hr) rfl (Or.inl ⟨rfl, Or.inl rfl, x, rfl⟩) (hb hby hd.1) hl⟩
theorem wp_ireturnN {x : Int32} {t : FieldType} (hd : Dc bytes pc .ireturn 1 pc') (hr : ret = some t) (ht : t = .boolean ∨ t = .byte ∨ t = .char ∨ t = .short) (hk : k ≤ R.cells) (hj : j ≤ R.slots) (hQ : Q (some (.int (nar t x))) H) : Wp b l Z own nm bytes maxL ret R H k j pc Ls (.int x :: st) Q :=
  fun p e s vm0 k0 m args below meth c T L hx hZ hS hkz hby hml hown hnm hret X N hH hB => ⟨T, (some (.int (nar t x))), L, k, j, vm0, k0, H, ⟨hS, hkz, fun _ => rfl⟩, X, ⟨hk, hj, Nat.le_refl _⟩, N, hH, fun h => by first | rfl | (rw [hr] at h; cases h), hQ, fun fs hl => retN X hx (hret.trans hr) ht (hb hby hd.1) hl⟩
theorem wp_lreturn {x : Int64} (hd : Dc bytes pc .lreturn 1 pc') (hr : ret = some .long) (hk : k ≤ R.cells) (hj : j ≤ R.slots) (hQ : Q (some (.long x)) H) : Wp b l Z own nm bytes maxL ret R H k j pc Ls (.long x :: st) Q :=
  fun p e s vm0 k0 m args below meth c T L hx hZ hS hkz hby hml hown hnm hret X N hH hB => ⟨T, (some (.long x)), L, k, j, vm0, k0, H, ⟨hS, hkz, fun _ => rfl⟩, X, ⟨hk, hj, Nat.le_refl _⟩, N, hH, fun h => by first | rfl | (rw [hr] at h; cases h), hQ, fun fs hl => retOut X hx (hret.trans hr) rfl (Or.inr (Or.inl ⟨rfl, rfl, x, rfl⟩)) (hb hby hd.1) hl⟩
theorem wp_areturn {x : Value} {t : FieldType} (hd : Dc bytes pc .areturn 1 pc') (hr : ret = some t) (ht : t.isReference = true) (hn : narrow t x = x) (hv : x.isRef = true) (hk : k ≤ R.cells) (hj : j ≤ R.slots) (hQ : Q (some x) H) : Wp b l Z own nm bytes maxL ret R H k j pc Ls (x :: st) Q :=
  fun p e s vm0 k0 m args below meth c T L hx hZ hS hkz hby hml hown hnm hret X N hH hB => ⟨T, (some x), L, k, j, vm0, k0, H, ⟨hS, hkz, fun _ => rfl⟩, X, ⟨hk, hj, Nat.le_refl _⟩, N, hH, fun h => by first | rfl | (rw [hr] at h; cases h), hQ, fun fs hl => retOut X hx (hret.trans hr) hn (Or.inr (Or.inr (Or.inr (Or.inr ⟨rfl, ht, hv⟩)))) (hb hby hd.1) hl⟩
def FldAt (Z : State) (H : OH) (a : Addr) (O n d : String) (v : Value) : Prop := ∀ h, Hp Z h H → Fld Z h a O n d v
def ExaAt (Z : State) (H : OH) (a : Addr) (C : String) : Prop := ∀ h, Hp Z h H → Exa Z h a C
theorem fld_new {i fi : Nat} {a : Addr} {fl : Bool} {C O n d : String} {sg : OSig} {vs : List Value} {v : Value} (hi : H[i]? = some (a, (fl, .inl (C, sg, vs)))) (hf : sg[fi]? = some (O, n, d)) (hv : vs[fi]? = some v) : FldAt Z H a O n d v := fun h P => (P.at hi).2.2.2 fi _ v hf hv
theorem fld_old {a : Addr} {O n d : String} {v : Value} (F : Fld Z Z.heap a O n d v) : FldAt Z H a O n d v := fun h P => F.ext P.1
theorem exa_new {i : Nat} {a : Addr} {fl : Bool} {C : String} {sg : OSig} {vs : List Value} (hi : H[i]? = some (a, (fl, .inl (C, sg, vs)))) : ExaAt Z H a C := fun h P => (P.at hi).2.1
theorem exa_old {a : Addr} {C : String} (F : Exa Z Z.heap a C) : ExaAt Z H a C := fun h P => F.ext P.1
theorem wp_getfield {a : Addr} {O n d : String} {v : Value} {idx : Nat} (hd : Dc bytes pc (.getfield idx) 3 pc') (w : (Cond.fieldLink own idx O n d).before a0 Z = true) (F : FldAt Z H a O n d v) (hr : Wp b l Z own nm bytes maxL ret R H k j pc' Ls (v :: st) Q) : Wp b l Z own nm bytes maxL ret R H k j pc Ls (.ref a :: st) Q := by
  obtain ⟨hd, rfl⟩ := hd
  refine Wp.stepH fun p e s m args below meth c T L hx hZ hby hml hown hnm hret X N hH => ?_
  obtain ⟨T', X', e', stp⟩ := getF X hx hZ hown (host := "") (Or.inl w) Via.refl rfl (F _ hH) (g := mkF m pc Ls (.ref a :: st)) rfl rfl (hb hby hd)
  exact ⟨T', L, k, j, H, _, Ls, v :: st, X', by rw [e']; exact Nat.le_refl _, N, by rw [e']; exact hH, hr, stp⟩
theorem wp_getfieldVia {a : Addr} {R0 O n d : String} {v : Value} {idx : Nat} (hd : Dc bytes pc (.getfield idx) 3 pc') (w : (Cond.fieldLink own idx R0 n d).before a0 Z = true) (via : Via Z R0 O n d) (F : FldAt Z H a O n d v) (hr : Wp b l Z own nm bytes maxL ret R H k j pc' Ls (v :: st) Q) : Wp b l Z own nm bytes maxL ret R H k j pc Ls (.ref a :: st) Q := by
  obtain ⟨hd, rfl⟩ := hd
  refine Wp.stepH fun p e s m args below meth c T L hx hZ hby hml hown hnm hret X N hH => ?_
  obtain ⟨T', X', e', stp⟩ := getF X hx hZ hown (host := "") (Or.inl w) via rfl (F _ hH) (g := mkF m pc Ls (.ref a :: st)) rfl rfl (hb hby hd)
  exact ⟨T', L, k, j, H, _, Ls, v :: st, X', by rw [e']; exact Nat.le_refl _, N, by rw [e']; exact hH, hr, stp⟩
theorem wp_getstatic {O n d : String} {v : Value} {idx : Nat} (hd : Dc bytes pc (.getstatic idx) 3 pc') (w : (Cond.fieldLink own idx O n d).before a0 Z = true) (F : Sta Z Z.heap O n d v) (hr : Wp b l Z own nm bytes maxL ret R H k j pc' Ls (v :: st) Q) : Wp b l Z own nm bytes maxL ret R H k j pc Ls st Q := by
  obtain ⟨hd, rfl⟩ := hd
  refine Wp.stepH fun p e s m args below meth c T L hx hZ hby hml hown hnm hret X N hH => ?_
  obtain ⟨T', X', e', stp⟩ := getS (host := "") X hx hZ hown w Via.refl rfl (F.ext hH.1) (g := mkF m pc Ls st) rfl (hb hby hd)
  exact ⟨T', L, k, j, H, _, Ls, v :: st, X', by rw [e']; exact Nat.le_refl _, N, by rw [e']; exact hH, hr, stp⟩
theorem Sat.put {h h' : Heap} {a : Addr} {C O n d : String} {sg : OSig} {vs : List Value} {fi : Nat} {v : Value} (S : Sat Z h a (.inl (C, sg, vs))) (hf : sg[fi]? = some (O, n, d)) (W : Wr h h' a (Jvm.RoadKit.slotOf Z O n d) v) : Sat Z h' a (.inl (C, sg, vs.set fi v)) := by
  obtain ⟨S1, S2, S3⟩ := S
  refine ⟨S1.wr W, S2, fun i f u q r => ?_⟩
  rw [List.getElem?_set] at r
  split at r
  · rename_i e; subst e
    split at r
    · rename_i hlt
      cases r
      cases hf.symm.trans q
      exact (S3 fi _ _ hf (List.getElem?_eq_getElem hlt)).same W
    · cases r
  · rename_i ne
    refine (S3 i f u q r).other W (Or.inr ?_)
    have hP := List.pairwise_iff_getElem.mp S2
    obtain ⟨h1, e1⟩ := List.getElem?_eq_some_iff.mp q
    obtain ⟨h2, e2⟩ := List.getElem?_eq_some_iff.mp hf
    rcases Nat.lt_or_gt_of_ne ne with u | u
    · have := hP fi i h2 h1 u; rw [e1, e2] at this; exact Ne.symm this
    · have := hP i fi h1 h2 u; rw [e1, e2] at this; exact this
theorem wp_putfield {i fi kk : Nat} {a : Addr} {C O n d : String} {sg : OSig} {vs : List Value} {v old : Value} {ty : FieldType} {idx : Nat} (hd : Dc bytes pc (.putfield idx) 3 pc') (w : (Cond.fieldLink own idx O n d).before a0 Z = true) (hi : H[i]? = some (a, oI C sg vs)) (hf : sg[fi]? = some (O, n, d)) (ho : vs[fi]? = some old) (L0 : (Cond.lays C O n d).before a0 Z = true ∨ ((Cond.laysFinal C O n d).before a0 Z = true ∧ own = O ∧ nm = "<init>")) (wi : (Cond.instantiable C kk).before a0 Z = true) (hty : parseFieldDescriptor d = some ty) (hn : narrow ty v = v) (hfit : fits ty v = true) (hr : Wp b l Z own nm bytes maxL ret R (H.set i (a, oI C sg (vs.set fi v))) k j pc' Ls st Q) : Wp b l Z own nm bytes maxL ret R H k j pc Ls (v :: .ref a :: st) Q := by
  obtain ⟨hd, rfl⟩ := hd
  refine Wp.stepH fun p e s m args below meth c T L hx hZ hby hml hown hnm hret X N hH => ?_
  have S := (hH.at hi).2
  obtain ⟨T', h', X', e', W', stp⟩ := putF X hx hZ hown (host := "") (Or.inl w) Via.refl rfl (S.2.2 fi _ _ hf ho) S.1 (L0.imp id fun q => ⟨q.1, q.2.1, hnm.trans q.2.2⟩) wi hty hn hfit (g := mkF m pc Ls (v :: .ref a :: st)) rfl rfl (hb hby hd)
  subst e'
  exact ⟨T', _, k, j, _, _, Ls, st, X', by rw [W'.size]; exact Nat.le_refl _, Fr.snoc X' N ((hH.at hi).1 rfl), hH.set hi W' (S.put hf W'), hr, stp⟩
def Dfl : OSig → List Value → Prop
  | [], [] => True
  | f :: sg, v :: vs => (∃ ty, parseFieldDescriptor f.2.2 = some ty ∧ defaultValue ty = v) ∧ Dfl sg vs
  | _, _ => False
theorem Dfl.at : ∀ {sg : OSig} {vs : List Value}, Dfl sg vs → ∀ (i : Nat) (f : String × String × String) (v : Value), sg[i]? = some f → vs[i]? = some v → ∃ ty, parseFieldDescriptor f.2.2 = some ty ∧ defaultValue ty = v
  | [], [], _, i, f, v, q, _ => by simp at q
  | f :: sg, v :: vs, D, 0, f', v', q, r => by simp at q r; subst q r; exact D.1
  | f :: sg, v :: vs, D, i + 1, f', v', q, r => D.2.at i f' v' (by simpa using q) (by simpa using r)
  | [], _ :: _, D, _, _, _, _, _ => D.elim
  | _ :: _, [], D, _, _, _, _, _ => D.elim
theorem Dfl.parse : ∀ {sg : OSig} {vs : List Value}, Dfl sg vs → ∀ f ∈ sg, ∃ ty, parseFieldDescriptor f.2.2 = some ty
  | [], [], _, f, q => by simp at q
  | g :: sg, v :: vs, D, f, q => (List.mem_cons.mp q).elim (fun e => by subst e; exact ⟨D.1.choose, D.1.choose_spec.1⟩) (D.2.parse f)
  | [], _ :: _, D, _, _ => D.elim
  | _ :: _, [], D, _, _ => D.elim
theorem slo_of {C : String} {sg : OSig} {vs : List Value} (D : Dfl sg vs) (hL : ∀ f ∈ sg, Laid Z a0 C f.1 f.2.1 f.2.2) (hn : (sg.map fun f => f.2.1).Nodup) : Slo Z sg := by
  have h1 : sg.Pairwise fun f g => f.2.1 ≠ g.2.1 := List.pairwise_map.mp hn
  refine List.Pairwise.imp_of_mem (fun {f g} hf hg ne => ?_) h1
  obtain ⟨t, ht⟩ := D.parse f hf
  obtain ⟨t', ht'⟩ := D.parse g hg
  exact slot_ne (hL f hf) (hL g hg) ne ht ht'
theorem all_nil {α : Type} {P : α → Prop} : ∀ x ∈ ([] : List α), P x := fun _ q => nomatch q
theorem all_cons {α : Type} {P : α → Prop} {y : α} {L : List α} (q : P y) (r : ∀ x ∈ L, P x) : ∀ x ∈ y :: L, P x := fun x z => (List.mem_cons.mp z).elim (fun u => u ▸ q) (r x)
theorem wp_new {C : String} {idx n : Nat} (sg : OSig) (vs : List Value) (hd : Dc bytes pc (.new idx) 3 pc') (w : (Cond.classLink own idx C).before a0 Z = true) (wi : (Cond.instantiable C n).before a0 Z = true) (wz : (Cond.initialized C).before a0 Z = true) (hL : ∀ f ∈ sg, Laid Z a0 C f.1 f.2.1 f.2.2) (hn : (sg.map fun f => f.2.1).Nodup) (D : Dfl sg vs) (hc : k + 1 ≤ R.cells) (hl : j + n ≤ R.slots) (hr : ∀ a, Wp b l Z own nm bytes maxL ret R ((a, oI C sg vs) :: H) (k + 1) (j + n) pc' Ls (.ref a :: st) Q) : Wp b l Z own nm bytes maxL ret R H k j pc Ls st Q := by
  obtain ⟨hd, rfl⟩ := hd
  refine Wp.stepH fun p e s m args below meth c T L hx hZ hby hml hown hnm hret X N hH => ?_
  obtain ⟨T', h', X', e', E', A', D', -, stp⟩ := newO X hx hZ hown w wi wz rfl (g := mkF m pc Ls st) rfl (hb hby hd) hc hl
  subst e'
  refine ⟨T', L, _, _, _, _, Ls, _, X', E'.1, N, hH.cons E' (o := .inl (C, sg, vs)) ⟨A', slo_of D hL hn, fun i f v q r => ?_⟩, hr _, stp⟩
  obtain ⟨ty, t1, t2⟩ := D.at i f v q r
  rw [← t2]
  exact D' (hL f (List.mem_of_getElem? q)) t1
theorem wp_initO {a : Addr} {idx : Nat} (hd : Dc bytes pc (.invokespecial idx) 3 pc') (w1 : (Cond.methodLink own idx Lib.objectInit).before a0 Z = true) (w2 : (Cond.instanceMethod Lib.objectInit).before a0 Z = true) (w3 : (Cond.code Lib.objectInit ⟨#[0xb1]⟩ 1 none).before a0 Z = true) (hsz : Ls.size = maxL) (hf : 1 ≤ R.frames) (hl : (st.map fun v => v.category).sum + 12 ≤ R.locals) (hr : Wp b l Z own nm bytes maxL ret R H k j pc' Ls st Q) : Wp b l Z own nm bytes maxL ret R H k j pc Ls (.ref a :: st) Q := by
  obtain ⟨hd, rfl⟩ := hd
  refine Wp.stepH fun p e s m args below meth c T L hx hZ hby hml hown hnm hret X N hH => ?_
  obtain ⟨T', X', e', stp⟩ := initO X hx hZ hown w1 w2 w3 rfl (g := mkF m pc Ls (.ref a :: st)) rfl (by rw [hml]; exact hsz) rfl (hb hby hd) hf (W := (st.map fun v => v.category).sum) (by show 2 * 0 + _ ≤ _; omega) hl
  exact ⟨T', L, k, j, H, _, Ls, st, X', by rw [e']; exact Nat.le_refl _, N, by rw [e']; exact hH, hr, stp⟩
theorem wp_newarrayI {aty : ArrayType} {ty : FieldType} {n : Int32} (cnt cap : Nat) (hd : Dc bytes pc (.newarray aty) 2 pc') (hty : newarray.typeOf aty = ty) (hdef : defaultValue ty = .int 0) (hfz : fits ty (.int 0) = true) (w : (Cond.arrayClass ty).before a0 Z = true) (hn : ¬ n < 0) (hcnt : n.toNatClampNeg = cnt) (hcap : cnt ≤ cap) (hb8 : cap * 8 ≤ 536870912) (hc : k + 1 ≤ R.cells) (hl : j + cap ≤ R.slots) (hr : ∀ a, Wp b l Z own nm bytes maxL ret R ((a, oA ty (List.replicate cnt 0)) :: H) (k + 1) (j + cap) pc' Ls (.ref a :: st) Q) : Wp b l Z own nm bytes maxL ret R H k j pc Ls (.int n :: st) Q := by
  obtain ⟨hd, rfl⟩ := hd
  subst hty
  refine Wp.stepH fun p e s m args below meth c T L hx hZ hby hml hown hnm hret X N hH => ?_
  obtain ⟨T', h', cA, X', e', E', A', B', stp⟩ := newPE X hx hZ w rfl (g := mkF m pc Ls (.int n :: st)) rfl (hb hby hd) rfl hn (cap := cap) (by rw [hcnt]; exact hcap) hb8 hc hl rfl
  subst e'
  refine ⟨T', L, _, _, _, _, Ls, _, X', E'.1, N, hH.cons E' (o := .inr (.inl (_, List.replicate cnt 0))) ⟨Or.inr B', _, A', ?_, fun x hx => ?_⟩, hr _, stp⟩
  · simp [newA, hcnt, hdef]
  · rw [(List.mem_replicate.mp hx).2]; exact hfz
set_option maxHeartbeats 1000000 in
theorem wp_newarrayJ {n : Int32} (cnt cap : Nat) (hd : Dc bytes pc (.newarray .long) 2 pc') (w : (Cond.arrayClass .long).before a0 Z = true) (hn : ¬ n < 0) (hcnt : n.toNatClampNeg = cnt) (hcap : cnt ≤ cap) (hb8 : cap * 8 ≤ 536870912) (hc : k + 1 ≤ R.cells) (hl : j + cap ≤ R.slots) (hr : ∀ a, Wp b l Z own nm bytes maxL ret R ((a, oJ (List.replicate cnt 0)) :: H) (k + 1) (j + cap) pc' Ls (.ref a :: st) Q) : Wp b l Z own nm bytes maxL ret R H k j pc Ls (.int n :: st) Q := by
  obtain ⟨hd, rfl⟩ := hd
  refine Wp.stepH fun p e s m args below meth c T L hx hZ hby hml hown hnm hret X N hH => ?_
  obtain ⟨T', h', cA, X', e', E', A', B', stp⟩ := newPE (aty := .long) (ad := "[J") X hx hZ w rfl (g := mkF m pc Ls (.int n :: st)) rfl (hb hby hd) rfl hn (cap := cap) (by rw [hcnt]; exact hcap) hb8 hc hl rfl
  subst e'
  refine ⟨T', L, _, _, _, _, Ls, _, X', E'.1, N, hH.cons E' (o := .inr (.inr (.inl (List.replicate cnt 0)))) ⟨B', _, A', ?_⟩, hr _, stp⟩
  simp [newA, hcnt, defaultValue, newarray.typeOf]
theorem in_of {j : Int32} {xs : List Value} {c : Cell} {v : Value} (hs : c.slots = xs.toArray) (hj : ¬ j < 0) (hv : xs[j.toNatClampNeg]? = some v) : ¬ (j < 0 ∨ c.slots.size ≤ j.toNatClampNeg) ∧ c.slots[j.toNatClampNeg]? = some v := by
  have h1 := (List.getElem?_eq_some_iff.mp hv).1
  refine ⟨fun q => q.elim hj fun r => ?_, by rw [hs]; simpa using hv⟩
  rw [hs] at r; simp at r; omega
theorem setSlot_list {c : Cell} {xs : List Value} {n : Nat} {v : Value} (hs : c.slots = xs.toArray) : (c.setSlot n v).slots = (xs.set n v).toArray := by simp [Cell.setSlot, hs]
theorem wp_iaload {i : Nat} {a : Addr} {fl : Bool} {xs : List Int32} {n x : Int32} (m : Nat) (hd : Dc bytes pc .iaload 1 pc') (hi : H[i]? = some (a, (fl, .inr (.inl (.int, xs))))) (hn : ¬ n < 0) (hm : n.toNatClampNeg = m) (hv : xs[m]? = some x) (hr : Wp b l Z own nm bytes maxL ret R H k j pc' Ls (.int x :: st) Q) : Wp b l Z own nm bytes maxL ret R H k j pc Ls (.int n :: .ref a :: st) Q := by
  obtain ⟨hd, rfl⟩ := hd
  refine Wp.step (fun p e s m args below meth c T L hx hZ hby hown X hH target h => ?_) hr
  obtain ⟨-, cl, A, hs, -⟩ := (hH.at hi).2
  obtain ⟨h1, h2⟩ := in_of hs hn (v := .int x) (by rw [hm]; simpa using hv)
  exact X.iaload hx A.1 (State.isArrayOf_alike hZ.alike A.2.1) A.2.2 h1 h2 (g := mkF m pc Ls (.int n :: .ref a :: st)) rfl rfl (hb hby hd) _ h
theorem wp_caload {i : Nat} {a : Addr} {fl : Bool} {xs : List Int32} {n x : Int32} (m : Nat) (hd : Dc bytes pc .caload 1 pc') (hi : H[i]? = some (a, (fl, .inr (.inl (.char, xs))))) (hn : ¬ n < 0) (hm : n.toNatClampNeg = m) (hv : xs[m]? = some x) (hr : Wp b l Z own nm bytes maxL ret R H k j pc' Ls (.int x :: st) Q) : Wp b l Z own nm bytes maxL ret R H k j pc Ls (.int n :: .ref a :: st) Q := by
  obtain ⟨hd, rfl⟩ := hd
  refine Wp.step (fun p e s m args below meth c T L hx hZ hby hown X hH target h => ?_) hr
  obtain ⟨-, cl, A, hs, -⟩ := (hH.at hi).2
  obtain ⟨h1, h2⟩ := in_of hs hn (v := .int x) (by rw [hm]; simpa using hv)
  exact X.caload hx A.1 (State.isArrayOf_alike hZ.alike A.2.1) A.2.2 h1 h2 (g := mkF m pc Ls (.int n :: .ref a :: st)) rfl rfl (hb hby hd) _ h
theorem wp_saload {i : Nat} {a : Addr} {fl : Bool} {xs : List Int32} {n x : Int32} (m : Nat) (hd : Dc bytes pc .saload 1 pc') (hi : H[i]? = some (a, (fl, .inr (.inl (.short, xs))))) (hn : ¬ n < 0) (hm : n.toNatClampNeg = m) (hv : xs[m]? = some x) (hr : Wp b l Z own nm bytes maxL ret R H k j pc' Ls (.int x :: st) Q) : Wp b l Z own nm bytes maxL ret R H k j pc Ls (.int n :: .ref a :: st) Q := by
  obtain ⟨hd, rfl⟩ := hd
  refine Wp.step (fun p e s m args below meth c T L hx hZ hby hown X hH target h => ?_) hr
  obtain ⟨-, cl, A, hs, -⟩ := (hH.at hi).2
  obtain ⟨h1, h2⟩ := in_of hs hn (v := .int x) (by rw [hm]; simpa using hv)
  exact X.saload hx A.1 (State.isArrayOf_alike hZ.alike A.2.1) A.2.2 h1 h2 (g := mkF m pc Ls (.int n :: .ref a :: st)) rfl rfl (hb hby hd) _ h
theorem wp_baload {i : Nat} {a : Addr} {fl : Bool} {xs : List Int32} {n x : Int32} (m : Nat) (hd : Dc bytes pc .baload 1 pc') (hi : H[i]? = some (a, (fl, .inr (.inl (.byte, xs))))) (hn : ¬ n < 0) (hm : n.toNatClampNeg = m) (hv : xs[m]? = some x) (hr : Wp b l Z own nm bytes maxL ret R H k j pc' Ls (.int x :: st) Q) : Wp b l Z own nm bytes maxL ret R H k j pc Ls (.int n :: .ref a :: st) Q := by
  obtain ⟨hd, rfl⟩ := hd
  refine Wp.step (fun p e s m args below meth c T L hx hZ hby hown X hH target h => ?_) hr
  obtain ⟨-, cl, A, hs, -⟩ := (hH.at hi).2
  obtain ⟨h1, h2⟩ := in_of hs hn (v := .int x) (by rw [hm]; simpa using hv)
  exact X.baloadBytes hx A.1 (State.isArrayOf_alike hZ.alike A.2.1) A.2.2 h1 h2 (g := mkF m pc Ls (.int n :: .ref a :: st)) rfl rfl (hb hby hd) _ h
theorem wp_zaload {i : Nat} {a : Addr} {fl : Bool} {xs : List Int32} {n x : Int32} (m : Nat) (hd : Dc bytes pc .baload 1 pc') (hi : H[i]? = some (a, (fl, .inr (.inl (.boolean, xs))))) (hn : ¬ n < 0) (hm : n.toNatClampNeg = m) (hv : xs[m]? = some x) (hr : Wp b l Z own nm bytes maxL ret R H k j pc' Ls (.int x :: st) Q) : Wp b l Z own nm bytes maxL ret R H k j pc Ls (.int n :: .ref a :: st) Q := by
  obtain ⟨hd, rfl⟩ := hd
  refine Wp.step (fun p e s m args below meth c T L hx hZ hby hown X hH target h => ?_) hr
  obtain ⟨-, cl, A, hs, -⟩ := (hH.at hi).2
  obtain ⟨h1, h2⟩ := in_of hs hn (v := .int x) (by rw [hm]; simpa using hv)
  exact X.baloadBooleans hx A.1 (State.isArrayOf_alike hZ.alike A.2.1) A.2.2 h1 h2 (g := mkF m pc Ls (.int n :: .ref a :: st)) rfl rfl (hb hby hd) _ h
theorem wp_laload {i : Nat} {a : Addr} {xs : List Int64} {n : Int32} {x : Int64} (m : Nat) (hd : Dc bytes pc .laload 1 pc') (hi : H[i]? = some (a, oJ xs)) (hn : ¬ n < 0) (hm : n.toNatClampNeg = m) (hv : xs[m]? = some x) (hr : Wp b l Z own nm bytes maxL ret R H k j pc' Ls (.long x :: st) Q) : Wp b l Z own nm bytes maxL ret R H k j pc Ls (.int n :: .ref a :: st) Q := by
  obtain ⟨hd, rfl⟩ := hd
  refine Wp.step (fun p e s m args below meth c T L hx hZ hby hown X hH target h => ?_) hr
  obtain ⟨Eq, cl, A, hs⟩ := (hH.at hi).2
  obtain ⟨h1, h2⟩ := in_of hs hn (v := .long x) (by rw [hm]; simpa using hv)
  exact X.laload hx A.1 (State.isArrayOf_alike hZ.alike A.2.1) A.2.2 h1 h2 (g := mkF m pc Ls (.int n :: .ref a :: st)) rfl rfl (hb hby hd) _ h
theorem wp_aaload {i : Nat} {a : Addr} {C : String} {ty : FieldType} {xs : List Value} {n : Int32} {x : Value} (m : Nat) (hd : Dc bytes pc .aaload 1 pc') (hi : H[i]? = some (a, oR C ty xs)) (hty : ty.isReference = true) (hn : ¬ n < 0) (hm : n.toNatClampNeg = m) (hv : xs[m]? = some x) (hr : Wp b l Z own nm bytes maxL ret R H k j pc' Ls (x :: st) Q) : Wp b l Z own nm bytes maxL ret R H k j pc Ls (.int n :: .ref a :: st) Q := by
  obtain ⟨hd, rfl⟩ := hd
  refine Wp.step (fun p e s m args below meth c T L hx hZ hby hown X hH target h => ?_) hr
  obtain ⟨-, cl, A, -, hs, -⟩ := (hH.at hi).2
  obtain ⟨h1, h2⟩ := in_of hs hn (hm.symm ▸ hv)
  exact X.aaload hx A.1 (State.isArrayOf_alike hZ.alike A.2.1) hty A.2.2 h1 h2 (g := mkF m pc Ls (.int n :: .ref a :: st)) rfl rfl (hb hby hd) _ h
theorem wp_lengthI {i : Nat} {a : Addr} {fl : Bool} {ty : FieldType} {xs : List Int32} (n : Int32) (hd : Dc bytes pc .arraylength 1 pc') (hi : H[i]? = some (a, (fl, .inr (.inl (ty, xs))))) (hn : xs.length.toInt32 = n) (hr : Wp b l Z own nm bytes maxL ret R H k j pc' Ls (.int n :: st) Q) : Wp b l Z own nm bytes maxL ret R H k j pc Ls (.ref a :: st) Q := by
  obtain ⟨hd, rfl⟩ := hd
  refine Wp.step (fun p e s m args below meth c T L hx hZ hby hown X hH target h => ?_) hr
  obtain ⟨-, cl, A, hs, -⟩ := (hH.at hi).2
  refine X.arraylength hx A.1 (State.isArrayOf_alike hZ.alike A.2.1) (g := mkF m pc Ls (.ref a :: st)) rfl rfl (hb hby hd) _ ?_
  have e1 : cl.slots.size.toInt32 = n := by rw [hs]; simpa using hn
  rw [e1]; exact h
theorem wp_lengthJ {i : Nat} {a : Addr} {xs : List Int64} (n : Int32) (hd : Dc bytes pc .arraylength 1 pc') (hi : H[i]? = some (a, oJ xs)) (hn : xs.length.toInt32 = n) (hr : Wp b l Z own nm bytes maxL ret R H k j pc' Ls (.int n :: st) Q) : Wp b l Z own nm bytes maxL ret R H k j pc Ls (.ref a :: st) Q := by
  obtain ⟨hd, rfl⟩ := hd
  refine Wp.step (fun p e s m args below meth c T L hx hZ hby hown X hH target h => ?_) hr
  obtain ⟨-, cl, A, hs⟩ := (hH.at hi).2
  refine X.arraylength hx A.1 (State.isArrayOf_alike hZ.alike A.2.1) (g := mkF m pc Ls (.ref a :: st)) rfl rfl (hb hby hd) _ ?_
  have e1 : cl.slots.size.toInt32 = n := by rw [hs]; simpa using hn
  rw [e1]; exact h
theorem wp_lengthR {i : Nat} {a : Addr} {C : String} {ty : FieldType} {xs : List Value} (n : Int32) (hd : Dc bytes pc .arraylength 1 pc') (hi : H[i]? = some (a, oR C ty xs)) (hn : xs.length.toInt32 = n) (hr : Wp b l Z own nm bytes maxL ret R H k j pc' Ls (.int n :: st) Q) : Wp b l Z own nm bytes maxL ret R H k j pc Ls (.ref a :: st) Q := by
  obtain ⟨hd, rfl⟩ := hd
  refine Wp.step (fun p e s m args below meth c T L hx hZ hby hown X hH target h => ?_) hr
  obtain ⟨-, cl, A, -, hs, -⟩ := (hH.at hi).2
  refine X.arraylength hx A.1 (State.isArrayOf_alike hZ.alike A.2.1) (g := mkF m pc Ls (.ref a :: st)) rfl rfl (hb hby hd) _ ?_
  have e1 : cl.slots.size.toInt32 = n := by rw [hs]; simpa using hn
  rw [e1]; exact h
theorem wp_iastore {i : Nat} {a : Addr} {xs : List Int32} {n x : Int32} (m : Nat) (hd : Dc bytes pc .iastore 1 pc') (hi : H[i]? = some (a, oA .int xs)) (hn : ¬ n < 0) (hm : n.toNatClampNeg = m) (hin : m < xs.length) (hr : Wp b l Z own nm bytes maxL ret R (H.set i (a, oA .int (xs.set m x))) k j pc' Ls st Q) : Wp b l Z own nm bytes maxL ret R H k j pc Ls (.int x :: .int n :: .ref a :: st) Q := by
  obtain ⟨hd, rfl⟩ := hd
  refine Wp.stepH fun p e s mm args below meth c T L hx hZ hby hml hown hnm hret X N hH => ?_
  subst hm
  obtain ⟨Eq, cl, A, hs, G⟩ := (hH.at hi).2
  obtain ⟨h1, -⟩ := in_of hs hn (v := .int xs[n.toNatClampNeg]) (by simp [hin])
  obtain ⟨T', h', X', e', W', stp⟩ := stI X hx hZ rfl A h1 (g := mkF mm pc Ls (.int x :: .int n :: .ref a :: st)) rfl rfl (hb hby hd)
  subst e'
  exact ⟨T', _, k, j, _, _, Ls, st, X', by rw [W'.size]; exact Nat.le_refl _, Fr.snoc X' N ((hH.at hi).1 rfl), hH.set hi W' (o' := .inr (.inl (_, xs.set n.toNatClampNeg _))) ⟨Eq.imp id (·.wr W'), _, A.same W', by rw [setSlot_list hs, List.map_set], fun y hy => (List.mem_or_eq_of_mem_set hy).elim (G y) fun q => by rw [q]; exact rfl⟩, hr, stp⟩
theorem wp_castore {i : Nat} {a : Addr} {xs : List Int32} {n x : Int32} (m : Nat) (hd : Dc bytes pc .castore 1 pc') (hi : H[i]? = some (a, oA .char xs)) (hn : ¬ n < 0) (hm : n.toNatClampNeg = m) (hin : m < xs.length) (hr : Wp b l Z own nm bytes maxL ret R (H.set i (a, oA .char (xs.set m (nar .char x)))) k j pc' Ls st Q) : Wp b l Z own nm bytes maxL ret R H k j pc Ls (.int x :: .int n :: .ref a :: st) Q := by
  obtain ⟨hd, rfl⟩ := hd
  refine Wp.stepH fun p e s mm args below meth c T L hx hZ hby hml hown hnm hret X N hH => ?_
  subst hm
  obtain ⟨Eq, cl, A, hs, G⟩ := (hH.at hi).2
  obtain ⟨h1, -⟩ := in_of hs hn (v := .int xs[n.toNatClampNeg]) (by simp [hin])
  obtain ⟨T', h', X', e', W', stp⟩ := stC X hx hZ rfl A h1 (g := mkF mm pc Ls (.int x :: .int n :: .ref a :: st)) rfl rfl (hb hby hd)
  subst e'
  exact ⟨T', _, k, j, _, _, Ls, st, X', by rw [W'.size]; exact Nat.le_refl _, Fr.snoc X' N ((hH.at hi).1 rfl), hH.set hi W' (o' := .inr (.inl (_, xs.set n.toNatClampNeg _))) ⟨Eq.imp id (·.wr W'), _, A.same W', by rw [setSlot_list hs, List.map_set], fun y hy => (List.mem_or_eq_of_mem_set hy).elim (G y) fun q => by rw [q]; exact fits_nar_char x⟩, hr, stp⟩
theorem wp_sastore {i : Nat} {a : Addr} {xs : List Int32} {n x : Int32} (m : Nat) (hd : Dc bytes pc .sastore 1 pc') (hi : H[i]? = some (a, oA .short xs)) (hn : ¬ n < 0) (hm : n.toNatClampNeg = m) (hin : m < xs.length) (hr : Wp b l Z own nm bytes maxL ret R (H.set i (a, oA .short (xs.set m (nar .short x)))) k j pc' Ls st Q) : Wp b l Z own nm bytes maxL ret R H k j pc Ls (.int x :: .int n :: .ref a :: st) Q := by
  obtain ⟨hd, rfl⟩ := hd
  refine Wp.stepH fun p e s mm args below meth c T L hx hZ hby hml hown hnm hret X N hH => ?_
  subst hm
  obtain ⟨Eq, cl, A, hs, G⟩ := (hH.at hi).2
  obtain ⟨h1, -⟩ := in_of hs hn (v := .int xs[n.toNatClampNeg]) (by simp [hin])
  obtain ⟨T', h', X', e', W', stp⟩ := stS X hx hZ rfl A h1 (g := mkF mm pc Ls (.int x :: .int n :: .ref a :: st)) rfl rfl (hb hby hd)
  subst e'
  exact ⟨T', _, k, j, _, _, Ls, st, X', by rw [W'.size]; exact Nat.le_refl _, Fr.snoc X' N ((hH.at hi).1 rfl), hH.set hi W' (o' := .inr (.inl (_, xs.set n.toNatClampNeg _))) ⟨Eq.imp id (·.wr W'), _, A.same W', by rw [setSlot_list hs, List.map_set], fun y hy => (List.mem_or_eq_of_mem_set hy).elim (G y) fun q => by rw [q]; exact fits_nar_short x⟩, hr, stp⟩
theorem wp_bastore {i : Nat} {a : Addr} {xs : List Int32} {n x : Int32} (m : Nat) (hd : Dc bytes pc .bastore 1 pc') (hi : H[i]? = some (a, oA .byte xs)) (hn : ¬ n < 0) (hm : n.toNatClampNeg = m) (hin : m < xs.length) (hr : Wp b l Z own nm bytes maxL ret R (H.set i (a, oA .byte (xs.set m (nar .byte x)))) k j pc' Ls st Q) : Wp b l Z own nm bytes maxL ret R H k j pc Ls (.int x :: .int n :: .ref a :: st) Q := by
  obtain ⟨hd, rfl⟩ := hd
  refine Wp.stepH fun p e s mm args below meth c T L hx hZ hby hml hown hnm hret X N hH => ?_
  subst hm
  obtain ⟨Eq, cl, A, hs, G⟩ := (hH.at hi).2
  obtain ⟨h1, -⟩ := in_of hs hn (v := .int xs[n.toNatClampNeg]) (by simp [hin])
  obtain ⟨T', h', X', e', W', stp⟩ := stB X hx hZ rfl A h1 (g := mkF mm pc Ls (.int x :: .int n :: .ref a :: st)) rfl rfl (hb hby hd)
  subst e'
  exact ⟨T', _, k, j, _, _, Ls, st, X', by rw [W'.size]; exact Nat.le_refl _, Fr.snoc X' N ((hH.at hi).1 rfl), hH.set hi W' (o' := .inr (.inl (_, xs.set n.toNatClampNeg _))) ⟨Eq.imp id (·.wr W'), _, A.same W', by rw [setSlot_list hs, List.map_set], fun y hy => (List.mem_or_eq_of_mem_set hy).elim (G y) fun q => by rw [q]; exact fits_nar_byte x⟩, hr, stp⟩
theorem wp_zastore {i : Nat} {a : Addr} {xs : List Int32} {n x : Int32} (m : Nat) (hd : Dc bytes pc .bastore 1 pc') (hi : H[i]? = some (a, oA .boolean xs)) (hn : ¬ n < 0) (hm : n.toNatClampNeg = m) (hin : m < xs.length) (hr : Wp b l Z own nm bytes maxL ret R (H.set i (a, oA .boolean (xs.set m (nar .boolean x)))) k j pc' Ls st Q) : Wp b l Z own nm bytes maxL ret R H k j pc Ls (.int x :: .int n :: .ref a :: st) Q := by
  obtain ⟨hd, rfl⟩ := hd
  refine Wp.stepH fun p e s mm args below meth c T L hx hZ hby hml hown hnm hret X N hH => ?_
  subst hm
  obtain ⟨Eq, cl, A, hs, G⟩ := (hH.at hi).2
  obtain ⟨h1, -⟩ := in_of hs hn (v := .int xs[n.toNatClampNeg]) (by simp [hin])
  obtain ⟨T', h', X', e', W', stp⟩ := stZ X hx hZ rfl A h1 (g := mkF mm pc Ls (.int x :: .int n :: .ref a :: st)) rfl rfl (hb hby hd)
  subst e'
  exact ⟨T', _, k, j, _, _, Ls, st, X', by rw [W'.size]; exact Nat.le_refl _, Fr.snoc X' N ((hH.at hi).1 rfl), hH.set hi W' (o' := .inr (.inl (_, xs.set n.toNatClampNeg _))) ⟨Eq.imp id (·.wr W'), _, A.same W', by rw [setSlot_list hs, List.map_set], fun y hy => (List.mem_or_eq_of_mem_set hy).elim (G y) fun q => by rw [q]; exact fits_nar_bool x⟩, hr, stp⟩
theorem wp_lastore {i : Nat} {a : Addr} {xs : List Int64} {n : Int32} {x : Int64} (m : Nat) (hd : Dc bytes pc .lastore 1 pc') (hi : H[i]? = some (a, oJ xs)) (hn : ¬ n < 0) (hm : n.toNatClampNeg = m) (hin : m < xs.length) (hr : Wp b l Z own nm bytes maxL ret R (H.set i (a, oJ (xs.set m x))) k j pc' Ls st Q) : Wp b l Z own nm bytes maxL ret R H k j pc Ls (.long x :: .int n :: .ref a :: st) Q := by
  obtain ⟨hd, rfl⟩ := hd
  refine Wp.stepH fun p e s mm args below meth c T L hx hZ hby hml hown hnm hret X N hH => ?_
  subst hm
  obtain ⟨Eq, cl, A, hs⟩ := (hH.at hi).2
  obtain ⟨h1, -⟩ := in_of hs hn (v := .long xs[n.toNatClampNeg]) (by simp [hin])
  obtain ⟨T', h', X', e', W', stp⟩ := stJ X hx hZ rfl A h1 (g := mkF mm pc Ls (.long x :: .int n :: .ref a :: st)) rfl rfl (hb hby hd)
  subst e'
  exact ⟨T', _, k, j, _, _, Ls, st, X', by rw [W'.size]; exact Nat.le_refl _, Fr.snoc X' N ((hH.at hi).1 rfl), hH.set hi W' (o' := .inr (.inr (.inl (xs.set n.toNatClampNeg x)))) ⟨Eq.wr W', _, A.same W', by rw [setSlot_list hs, List.map_set]⟩, hr, stp⟩
/-- a body's contract: handed these arguments among these new objects it returns and Q holds -/
def Met (l : Launch) (Z : State) (y : MethodName) (bytes : ByteArray) (maxL : Nat) (ret : Option FieldType) (rm : Room) (as' : List Value) (H : OH) (Q : Option Value → OH → Prop) : Prop :=
  ∀ (ws : List Jvm.Cond) (h : Heap), Hp Z h H → MetFree l y (head1 (Jvm.Cond.code y bytes maxL ret :: ws) rm) (fun a U => a = as'.toArray ∧ Z.Warmed39 U.vm ∧ U.heap = h) (fun _ _ _ _ _ => True)
    (fun _ U o U' => ∃ v L, o = .returned v ∧ (Fr Z.heap.size L ∧ h.size ≤ U'.heap.size ∧ ∃ H', Hp Z U'.heap H' ∧ Q v H') ∧ FrameEnd U o U' L rm.cells rm.slots)
theorem Met.of_wp {y : MethodName} {rm : Room} {as' : List Value} (hx : plainFor y = true) (hef : ∀ m, entryFrame m as'.toArray maxL = mkF m 0 Ls []) (hw : Wp none l Z y.cls y.name bytes maxL ret rm H 0 0 0 Ls [] Q) : Met l Z y bytes maxL ret rm as' H Q := by
  intro ws h hH
  refine MetFree.of_bodySF hx hisR ?_
  intro p e s m args below meth c s₁ Bd hml0 hP hK
  obtain ⟨rfl, hZ, hh⟩ := hP
  have X0 : Stand p l e rm s m as'.toArray below meth c s₁ [] 0 0 := Stand.of_body Bd
  have e0 : s₁.heap = h := by rw [← hh, Bd.state]; rfl
  obtain ⟨T', v, L', k', j', vm1, k1, H', ⟨hS, hk1, hvm⟩, X', ⟨hc, hj, hsz⟩, N', hH', hv, hQ, stp⟩ := hw p e s s.vm 0 m as'.toArray below meth c s₁ [] Bd.exec hZ ((State.WarmedH.refl s).since 0) (Nat.zero_le _) Bd.bytes hml0 (findClass_of_methodNamed Bd.named) (name_of_methodNamed Bd.named Bd.method).1 Bd.returns X0 (Fr.nil _) (by rw [e0]; exact hH) (fun _ q => nomatch q)
  obtain rfl := hvm rfl
  have X'' : Stand p l e rm s m as'.toArray below meth c T' L' k' j' := X'
  obtain ⟨fs, hr, hrun, hended, hW, hsame⟩ := X''.leave (v := v) (fun h => hv (Bd.returns.symm.trans h))
  refine ⟨_, _, castTop (hef m) (stp fs hr), hrun, hended, v, L', rfl, ⟨N', ?_, H', hH', hQ⟩, ⟨_, rfl⟩, hW, hsame.mono hc hj⟩
  rw [e0] at hsz; exact hsz
/-- the same for a body that may intern (a String constant loaded cold) -/
theorem MetW.of_wp {y : MethodName} {rm : Room} {as' : List Value} (hx : plainFor y = true) (hef : ∀ m, entryFrame m as'.toArray maxL = mkF m 0 Ls []) (hw : Wp b l Z y.cls y.name bytes maxL ret rm H 0 0 0 Ls [] Q) (ws : List Jvm.Cond) (h : Heap) (hH : Hp Z h H) :
    MetFree l y (head1 (Jvm.Cond.code y bytes maxL ret :: ws) rm) (fun a U => a = as'.toArray ∧ Z.Warmed39 U.vm ∧ U.heap = h ∧ MdOk b Z U U.vm) (fun _ _ _ _ _ => True)
      (fun _ U o U' => ∃ v L, o = .returned v ∧ (Fr Z.heap.size L ∧ ∃ H', Hp Z U'.heap H' ∧ Q v H') ∧ ReturnedEndW U o U' L rm.cells rm.slots) := by
  refine MetFree.of_bodySF hx hisR ?_
  intro p e s m args below meth c s₁ Bd hml0 hP hK
  obtain ⟨rfl, hZ, hh, hB⟩ := hP
  have X0 : Stand p l e rm s m as'.toArray below meth c s₁ [] 0 0 := Stand.of_body Bd
  have e0 : s₁.heap = h := by rw [← hh, Bd.state]; rfl
  obtain ⟨T', v, L', k', j', vm1, k1, H', ⟨hS, hk1, -⟩, X', ⟨hc, hj, hsz⟩, N', hH', hv, hQ, stp⟩ := hw p e s s.vm 0 m as'.toArray below meth c s₁ [] Bd.exec hZ ((State.WarmedH.refl s).since 0) (Nat.zero_le _) Bd.bytes hml0 (findClass_of_methodNamed Bd.named) (name_of_methodNamed Bd.named Bd.method).1 Bd.returns X0 (Fr.nil _) (by rw [e0]; exact hH) hB
  obtain ⟨fs, hr, hrun, hended, q1, q2, q3, q4⟩ := X'.leaveW hS hk1 (v := v) (fun h => hv (Bd.returns.symm.trans h))
  exact ⟨_, _, castTop (hef m) (stp fs hr), hrun, hended, v, L', rfl, ⟨N', H', hH', hQ⟩, q1, q2, q3, q4.mono hc hj⟩
theorem Met.mono {y : MethodName} {rm : Room} {as' : List Value} {Q' : Option Value → OH → Prop} (M : Met l Z y bytes maxL ret rm as' H Q') (hq : ∀ v H', Q' v H' → Q v H') : Met l Z y bytes maxL ret rm as' H Q := fun ws h hH p e ha hc hk s m args below hf happ hP hK => by
  obtain ⟨n, o, h1, h2, h3, v, L, rfl, ⟨q1, q2, H', q3, q4⟩, h5⟩ := M ws h hH p e ha hc hk s m args below hf happ hP hK
  exact ⟨n, _, h1, h2, h3, v, L, rfl, ⟨q1, q2, H', q3, hq _ _ q4⟩, h5⟩
theorem wp_callS {y : MethodName} {bytes' : ByteArray} {maxL' : Nat} {ret' : Option FieldType} {rm : Room} {rest : List Value} {Q' : Option Value → OH → Prop} {idx : Nat} {ps : List FieldType} {rt : Option FieldType} {as' : List Value} (M : Met l Z y bytes' maxL' ret' rm as' H Q') (hd : Dc bytes pc (.invokestatic idx) 3 pc') (w1 : (Cond.methodLink own idx y).before a0 Z = true) (w2 : (Cond.static y).before a0 Z = true) (w3 : (Cond.initialized y.cls).before a0 Z = true) (w4 : (Cond.code y bytes' maxL' ret').before a0 Z = true) (hy : y.cls ≠ "java/lang/invoke/MethodHandle" ∧ y.cls ≠ "java/lang/invoke/VarHandle") (hpd : parseMethodDescriptor y.desc = some ⟨ps, rt⟩) (hlen : as'.length = ps.length) (hst : st = as'.reverse ++ rest) (hsz : Ls.size = maxL) (hf : rm.frames + 1 ≤ R.frames) (hl : (rest.map fun v => v.category).sum + (maxL' + 11) + rm.locals ≤ R.locals) (hc : k + rm.cells ≤ R.cells) (hj : j + rm.slots ≤ R.slots) (hr : ∀ v H', Q' v H' → Wp b l Z own nm bytes maxL ret R H' (k + rm.cells) (j + rm.slots) pc' Ls (v.toList ++ rest) Q) : Wp b l Z own nm bytes maxL ret R H k j pc Ls st Q := by
  obtain ⟨hd, rfl⟩ := hd
  refine Wp.stepH fun p e s m args below meth c T L hx hZ hby hml hown hnm hret X N hH => ?_
  obtain ⟨v, _, ⟨T', L', k', n'⟩, -, X', ⟨Lc, ⟨N', hsz', H', hH', hQ⟩, l1, y1, z1⟩, stp⟩ := Jvm.LawKit.callS X hx (y := y) hown (mvT hZ w1) (mvT hZ w2) (mvT hZ w3) (mvT hZ w4) hy (backOf (W := (rest.map fun v => v.category).sum) (Q := fun v h L => Fr Z.heap.size L ∧ T.heap.size ≤ h.size ∧ ∃ H', Hp Z h H' ∧ Q' v H') (M [] T.heap hH) hZ w4 w3 hf hl) (g := mkF m pc Ls st) rfl (by rw [hml]; exact hsz) (argsL := as') (rest := rest) (lenOf hpd hlen) hst (by show 2 * 0 + _ ≤ _; omega) (hb hby hd) (fun _ _ => ⟨rfl, rfl, hc, hj⟩)
  dsimp only [Pt.U, Pt.locs, Pt.cells, Pt.slots] at X' l1 y1 z1 stp hH' hsz'
  subst l1 y1 z1
  exact ⟨T', _, _, _, H', _, Ls, v.toList ++ rest, X', hsz', N.app N', hH', hr v H' hQ, stp⟩
theorem wp_init {y : MethodName} {bytes' : ByteArray} {maxL' : Nat} {rm : Room} {rest : List Value} {Q' : Option Value → OH → Prop} {idx : Nat} {ps : List FieldType} {rt : Option FieldType} {a : Addr} {as' : List Value} (M : Met l Z y bytes' maxL' none rm (.ref a :: as') H Q') (hd : Dc bytes pc (.invokespecial idx) 3 pc') (hin : y.name = "<init>") (w1 : (Cond.methodLink own idx y).before a0 Z = true) (w2 : (Cond.instanceMethod y).before a0 Z = true) (w3 : (Cond.initialized y.cls).before a0 Z = true) (w4 : (Cond.code y bytes' maxL' none).before a0 Z = true) (hy : y.cls ≠ "java/lang/invoke/MethodHandle" ∧ y.cls ≠ "java/lang/invoke/VarHandle") (hpd : parseMethodDescriptor y.desc = some ⟨ps, rt⟩) (hlen : as'.length = ps.length) (hst : st = as'.reverse ++ .ref a :: rest) (hsz : Ls.size = maxL) (hf : rm.frames + 1 ≤ R.frames) (hl : (rest.map fun v => v.category).sum + (maxL' + 11) + rm.locals ≤ R.locals) (hc : k + rm.cells ≤ R.cells) (hj : j + rm.slots ≤ R.slots) (hr : ∀ v H', Q' v H' → Wp b l Z own nm bytes maxL ret R H' (k + rm.cells) (j + rm.slots) pc' Ls (v.toList ++ rest) Q) : Wp b l Z own nm bytes maxL ret R H k j pc Ls st Q := by
  obtain ⟨hd, rfl⟩ := hd
  refine Wp.stepH fun p e s m args below meth c T L hx hZ hby hml hown hnm hret X N hH => ?_
  obtain ⟨v, _, ⟨T', L', k', n'⟩, -, X', ⟨Lc, ⟨N', hsz', H', hH', hQ⟩, l1, y1, z1⟩, stp⟩ := X.specialBack hx (y := y) hin hown (mvT hZ w1) (mvT hZ w2) (mvT hZ w4) hy (backOf (W := (rest.map fun v => v.category).sum) (Q := fun v h L => Fr Z.heap.size L ∧ T.heap.size ≤ h.size ∧ ∃ H', Hp Z h H' ∧ Q' v H') (M [] T.heap hH) hZ w4 w3 hf hl) (g := mkF m pc Ls st) rfl (by rw [hml]; exact hsz) (Steps.refl _) (a := a) (argsL := as') (rest := rest) (lenOf hpd hlen) hst (by show 2 * 0 + _ ≤ _; omega) (hb hby hd) (fun _ _ => ⟨rfl, rfl, hc, hj⟩)
  dsimp only [Pt.U, Pt.locs, Pt.cells, Pt.slots] at X' l1 y1 z1 stp hH' hsz'
  subst l1 y1 z1
  exact ⟨T', _, _, _, H', _, Ls, v.toList ++ rest, X', hsz', N.app N', hH', hr v H' hQ, fun _ q => stp.trans q⟩
theorem wp_virtual {y : MethodName} {bytes' : ByteArray} {maxL' : Nat} {ret' : Option FieldType} {rm : Room} {rest : List Value} {Q' : Option Value → OH → Prop} {idx : Nat} {ps : List FieldType} {rt : Option FieldType} {x : MethodName} {C : String} {a : Addr} {as' : List Value} (M : Met l Z y bytes' maxL' ret' rm (.ref a :: as') H Q') (E : ExaAt Z H a C) (hd : Dc bytes pc (.invokevirtual idx) 3 pc') (w1 : (Cond.methodLink own idx x).before a0 Z = true) (w2 : (Cond.declares x).before a0 Z = true) (wn : (Cond.selects x.cls x x).before a0 Z = true) (ws : (Cond.selects C x y).before a0 Z = true) (wi : (Cond.instanceMethod y).before a0 Z = true) (w3 : (Cond.initialized y.cls).before a0 Z = true) (w4 : (Cond.code y bytes' maxL' ret').before a0 Z = true) (hy : x.cls ≠ "java/lang/invoke/MethodHandle" ∧ x.cls ≠ "java/lang/invoke/VarHandle") (hpd : parseMethodDescriptor x.desc = some ⟨ps, rt⟩) (hlen : as'.length = ps.length) (hst : st = as'.reverse ++ .ref a :: rest) (hsz : Ls.size = maxL) (hf : rm.frames + 1 ≤ R.frames) (hl : (rest.map fun v => v.category).sum + (maxL' + 11) + rm.locals ≤ R.locals) (hc : k + rm.cells ≤ R.cells) (hj : j + rm.slots ≤ R.slots) (hr : ∀ v H', Q' v H' → Wp b l Z own nm bytes maxL ret R H' (k + rm.cells) (j + rm.slots) pc' Ls (v.toList ++ rest) Q) : Wp b l Z own nm bytes maxL ret R H k j pc Ls st Q := by
  obtain ⟨hd, rfl⟩ := hd
  refine Wp.stepH fun p e s m args below meth c T L hx hZ hby hml hown hnm hret X N hH => ?_
  obtain ⟨cq, kq, q1, q2, q3⟩ := isOf hZ rfl (E _ hH)
  obtain ⟨v, _, ⟨T', L', k', n'⟩, -, X', ⟨Lc, ⟨N', hsz', H', hH', hQ⟩, l1, y1, z1⟩, stp⟩ := X.virtualBack hx (y := x) (z := y) hown (mvT hZ w1) (mvT hZ w2) (notFace_of_selects (args := #[]) (mvT hZ wn)) (mvT hZ ws) (mvT hZ wi) hy (backOf (W := (rest.map fun v => v.category).sum) (Q := fun v h L => Fr Z.heap.size L ∧ T.heap.size ≤ h.size ∧ ∃ H', Hp Z h H' ∧ Q' v H') (M [] T.heap hH) hZ w4 w3 hf hl) q1 q3 (g := mkF m pc Ls st) rfl (by rw [hml]; exact hsz) (Steps.refl _) (argsL := as') (rest := rest) (lenOf hpd hlen) hst (by show 2 * 0 + _ ≤ _; omega) (hb hby hd) (fun _ _ => ⟨rfl, rfl, hc, hj⟩)
  dsimp only [Pt.U, Pt.locs, Pt.cells, Pt.slots] at X' l1 y1 z1 stp hH' hsz'
  subst l1 y1 z1
  exact ⟨T', _, _, _, H', _, Ls, v.toList ++ rest, X', hsz', N.app N', hH', hr v H' hQ, fun _ q => stp.trans q⟩
theorem xs_pop2L {tb : Tables} [Ours tb] {e : Env} {below : List Frame} {T target : State} {m : MethodId} {c : Code} {g : JFrame} (h : At T m c below) (hx : tb.exec = Jvm.exec) (hg : g.method = m) {x : Int64} {rest : List Value} (hd : decode c.code g.pc = .ok (.pop2, 1)) (hs : g.stack = .long x :: rest)
    (hr : Steps tb e below (T.setTop { g with pc := g.pc + 1, stack := rest }) target) : Steps tb e below (T.setTop g) target := by
  subst hg
  jvm_step h [h.top, hx, hd, hs, Value.category]
  exact hr
theorem xs_dup_x2 {tb : Tables} [Ours tb] {e : Env} {below : List Frame} {T target : State} {m : MethodId} {c : Code} {g : JFrame} (h : At T m c below) (hx : tb.exec = Jvm.exec) (hg : g.method = m) {x y z : Value} {rest : List Value} (hd : decode c.code g.pc = .ok (.dup_x2, 1)) (hs : g.stack = x :: y :: z :: rest) (hc1 : x.category = 1) (hc2 : y.category = 1) (hc3 : z.category = 1)
    (hr : Steps tb e below (T.setTop { g with pc := g.pc + 1, stack := x :: y :: z :: x :: rest }) target) : Steps tb e below (T.setTop g) target := by
  subst hg
  jvm_step h [h.top, hx, hd, hs, hc1, hc2, hc3]
  exact hr
theorem wp_pop2L {x : Int64} (hd : Dc bytes pc (.pop2) 1 pc')  (hr : Wp b l Z own nm bytes maxL ret R H k j pc' Ls st Q) : Wp b l Z own nm bytes maxL ret R H k j pc Ls (.long x :: st) Q := by
  obtain ⟨hd, rfl⟩ := hd
  exact Wp.step (fun p e s m args below meth c T L hx hZ hby hown X hH target ht => xs_pop2L X.here hx rfl (hb hby hd) rfl ht) hr
theorem wp_dup_x2 {x y z : Value} (hd : Dc bytes pc (.dup_x2) 1 pc') (hc1 : x.category = 1) (hc2 : y.category = 1) (hc3 : z.category = 1) (hr : Wp b l Z own nm bytes maxL ret R H k j pc' Ls (x :: y :: z :: x :: st) Q) : Wp b l Z own nm bytes maxL ret R H k j pc Ls (x :: y :: z :: st) Q := by
  obtain ⟨hd, rfl⟩ := hd
  exact Wp.step (fun p e s m args below meth c T L hx hZ hby hown X hH target ht => xs_dup_x2 X.here hx rfl (hb hby hd) rfl hc1 hc2 hc3 ht) hr
theorem wp_private {y : MethodName} {bytes' : ByteArray} {maxL' : Nat} {ret' : Option FieldType} {rm : Room} {rest : List Value} {Q' : Option Value → OH → Prop} {idx : Nat} {ps : List FieldType} {rt : Option FieldType} {a : Addr} {C : String} {kk : Nat} {as' : List Value} (M : Met l Z y bytes' maxL' ret' rm (.ref a :: as') H Q') (E : ExaAt Z H a C) (hd : Dc bytes pc (.invokevirtual idx) 3 pc') (w1 : (Cond.methodLink own idx y).before a0 Z = true) (wi : (Cond.instanceMethod y).before a0 Z = true) (wn : (Cond.instantiable y.cls kk).before a0 Z = true) (wp : (Cond.privateMethod y).before a0 Z = true) (w3 : (Cond.initialized y.cls).before a0 Z = true) (w4 : (Cond.code y bytes' maxL' ret').before a0 Z = true) (hy : y.cls ≠ "java/lang/invoke/MethodHandle" ∧ y.cls ≠ "java/lang/invoke/VarHandle") (hpd : parseMethodDescriptor y.desc = some ⟨ps, rt⟩) (hlen : as'.length = ps.length) (hst : st = as'.reverse ++ .ref a :: rest) (hsz : Ls.size = maxL) (hf : rm.frames + 1 ≤ R.frames) (hl : (rest.map fun v => v.category).sum + (maxL' + 11) + rm.locals ≤ R.locals) (hc : k + rm.cells ≤ R.cells) (hj : j + rm.slots ≤ R.slots) (hr : ∀ v H', Q' v H' → Wp b l Z own nm bytes maxL ret R H' (k + rm.cells) (j + rm.slots) pc' Ls (v.toList ++ rest) Q) : Wp b l Z own nm bytes maxL ret R H k j pc Ls st Q := by
  obtain ⟨hd, rfl⟩ := hd
  refine Wp.stepH fun p e s m args below meth c T L hx hZ hby hml hown hnm hret X N hH => ?_
  obtain ⟨cl, q1, q2⟩ := (E _ hH).cell
  obtain ⟨mk, mt, n1, n2, n3, n4⟩ := Cond.instanceMethod_spec (mvT (args := args) hZ wi)
  obtain ⟨mt', cM, n2', -, -, -, -, -, -, n5⟩ := Cond.code_spec n1 (mvT (args := args) hZ w4)
  cases n2.symm.trans n2'
  obtain ⟨c2, k2, i1, i2, -, i4, -⟩ := Cond.instantiable_spec (mvT (args := args) hZ wn)
  cases (findClass_of_methodNamed n1).symm.trans i1
  have i5 : k2.isInterface = false := by cases q : k2.isInterface with | false => rfl | true => rw [q] at i4; cases i4
  have hsel : selectMethod e.platform s.vm cl.cls mk = .method mk := selectMethod_private n2 (Cond.privateMethod_at (mvP (args := args) hZ wp) mk mt n1 n2)
  obtain ⟨vm1, X1, st1⟩ := X.invokevirtual hx hown (mvT hZ w1) n1 n2 n3 i2 i5 hy (a := a) (cell := cl) q1 q2 hsel n2 n4 i2 i5 (g := mkF m pc Ls st) rfl (argsL := as') (rest := rest) (lenOf hpd hlen _ n5) hst (hb hby hd)
  obtain ⟨v, ⟨T', L', k', n'⟩, X', ⟨Lc, ⟨N', hsz', H', hH', hQ⟩, l1, y1, z1⟩, st2⟩ := backOf (p := p) (e := e) (below := below) (args := args) (len := 3) (W := (rest.map fun v => v.category).sum) (Q := fun v h L => Fr Z.heap.size L ∧ T.heap.size ≤ h.size ∧ ∃ H', Hp Z h H' ∧ Q' v H') (M [] T.heap hH) hZ w4 w3 hf hl m meth c ⟨T.setVm vm1, L, k, j⟩ { mkF m pc Ls st with stack := rest } (.invokevirtual idx) mk (.ref a :: as').toArray X1 rfl (by show Ls.size = _; rw [hml]; exact hsz) (hb hby hd) (by show 2 * 0 + (rest.map fun v => v.category).sum ≤ _; omega) (X1.named n1) ⟨rfl, rfl, hc, hj⟩
  dsimp only [Pt.U, Pt.locs, Pt.cells, Pt.slots] at X' l1 y1 z1 st2 hH' hsz'
  subst l1 y1 z1
  exact ⟨T', _, _, _, H', _, Ls, v.toList ++ rest, X', hsz', N.app N', hH', hr v H' hQ, fun t q => st1 _ fun acts => by rw [doInvoke_state]; exact st2.trans q⟩
theorem wp_interface {y : MethodName} {bytes' : ByteArray} {maxL' : Nat} {ret' : Option FieldType} {rm : Room} {rest : List Value} {Q' : Option Value → OH → Prop} {idx : Nat} {ps : List FieldType} {rt : Option FieldType} {x : MethodName} {C : String} {cnt : Nat} {a : Addr} {as' : List Value} (M : Met l Z y bytes' maxL' ret' rm (.ref a :: as') H Q') (E : ExaAt Z H a C) (hd : Dc bytes pc (.invokeinterface idx cnt) 5 pc') (w1 : (Cond.methodLink own idx x).before a0 Z = true) (w2 : (Cond.declares x).before a0 Z = true) (wf : (Cond.interfaceMethod x.cls x.cls x.name x.desc).before a0 Z = true) (hfa : ((Cond.interfaceMethod x.cls x.cls x.name x.desc).onTables && (Cond.interfaceMethod x.cls x.cls x.name x.desc).keepsFace) = true) (ws : (Cond.selects C x y).before a0 Z = true) (wi : (Cond.instanceMethod y).before a0 Z = true) (wpu : (Cond.publicMethod y).before a0 Z = true) (wu : (Cond.unhidden C x.name x.desc).before a0 Z = true) (wc : (Cond.castable C x.cls).before a0 Z = true) (w3 : (Cond.initialized y.cls).before a0 Z = true) (w4 : (Cond.code y bytes' maxL' ret').before a0 Z = true) (hy : x.cls ≠ "java/lang/invoke/MethodHandle" ∧ x.cls ≠ "java/lang/invoke/VarHandle") (hpd : parseMethodDescriptor x.desc = some ⟨ps, rt⟩) (hlen : as'.length = ps.length) (hst : st = as'.reverse ++ .ref a :: rest) (hsz : Ls.size = maxL) (hf : rm.frames + 1 ≤ R.frames) (hl : (rest.map fun v => v.category).sum + (maxL' + 11) + rm.locals ≤ R.locals) (hc : k + rm.cells ≤ R.cells) (hj : j + rm.slots ≤ R.slots) (hr : ∀ v H', Q' v H' → Wp b l Z own nm bytes maxL ret R H' (k + rm.cells) (j + rm.slots) pc' Ls (v.toList ++ rest) Q) : Wp b l Z own nm bytes maxL ret R H k j pc Ls st Q := by
  obtain ⟨hd, rfl⟩ := hd
  refine Wp.stepH fun p e s m args below meth c T L hx hZ hby hml hown hnm hret X N hH => ?_
  obtain ⟨cq, kq, q1, q2, q3⟩ := isOf hZ rfl (E _ hH)
  obtain ⟨v, _, ⟨T', L', k', n'⟩, -, X', ⟨Lc, ⟨N', hsz', H', hH', hQ⟩, l1, y1, z1⟩, stp⟩ := X.interfaceBack hx (xi := x) (y := y) hown (mvT hZ w1) (mvT hZ w2) (mvT hZ wf hfa) (mvT hZ ws) (mvT hZ wi) (mvT hZ wpu) (mvT hZ wu) (mvT hZ wc) hy (backOf (len := 5) (W := (rest.map fun v => v.category).sum) (Q := fun v h L => Fr Z.heap.size L ∧ T.heap.size ≤ h.size ∧ ∃ H', Hp Z h H' ∧ Q' v H') (M [] T.heap hH) hZ w4 w3 hf hl) q1 q2 q3 (g := mkF m pc Ls st) rfl (by rw [hml]; exact hsz) (Steps.refl _) (argsL := as') (rest := rest) (lenOf hpd hlen) hst (by show 2 * 0 + _ ≤ _; omega) (hb hby hd) (fun _ _ => ⟨rfl, rfl, hc, hj⟩)
  dsimp only [Pt.U, Pt.locs, Pt.cells, Pt.slots] at X' l1 y1 z1 stp hH' hsz'
  subst l1 y1 z1
  exact ⟨T', _, _, _, H', _, Ls, v.toList ++ rest, X', hsz', N.app N', hH', hr v H' hQ, fun _ q => stp.trans q⟩
theorem wp_ldcS {text : String} {idx n : Nat} (hd : Dc bytes pc (.ldc idx) 2 pc') (hbt : b = some none) (w : (Cond.stringLink own idx text).before a0 Z = true) (wS : ∀ a ∈ Bundle.stringAtoms, a.before a0 Z = true) (hn : 4 * text.toList.length ≤ n) (hbig : n ≤ 536870912) (hc : k + 2 ≤ R.cells) (hl : j + (n + 4) ≤ R.slots) (hr : ∀ a, Wp b l Z own nm bytes maxL ret R H (k + 2) (j + (n + 4)) pc' Ls (.ref a :: st) Q) : Wp b l Z own nm bytes maxL ret R H k j pc Ls st Q := by
  obtain ⟨hd, rfl⟩ := hd
  intro p e s vm0 k0 m args below meth c T L hx hZ hS hk hby hml hown hnm hret X N hH hB
  obtain ⟨a, T', h', k1, X', e', E', hS', hk1, hZ', hown', stp⟩ := ldcS X hx hZ hown w wS rfl hS hk (g := mkF m pc Ls st) rfl (hb hby hd) hn hbig hc hl
  subst e'
  obtain ⟨T2, v, L2, k2, j2, vm1, k3, H2, ⟨r0, r1, r2⟩, r3, ⟨r4, r5, r6⟩, r7, r8, r9, r10, r11⟩ := hr a p e s T'.vm k1 m args below meth c T' L hx hZ' hS' hk1 hby hml hown' hnm hret X' N (hH.ext E') (fun _ q => by rw [hbt] at q; cases q)
  exact ⟨T2, v, L2, k2, j2, vm1, k3, H2, ⟨r0, r1, fun q => by rw [hbt] at q; cases q⟩, r3, ⟨r4, r5, Nat.le_trans E'.1 r6⟩, r7, r8, r9, r10, fun fs hl => stp _ (r11 fs hl)⟩
theorem wp_cast {a : Addr} {K : String} {idx : Nat} (hd : Dc bytes pc (.checkcast idx) 3 pc') (w : (Cond.classLink own idx K).before a0 Z = true) (F : ∀ h, Hp Z h H → Ins Z h a K true) (hr : Wp b l Z own nm bytes maxL ret R H k j pc' Ls (.ref a :: st) Q) : Wp b l Z own nm bytes maxL ret R H k j pc Ls (.ref a :: st) Q := by
  obtain ⟨hd, rfl⟩ := hd
  refine Wp.stepH fun p e s m args below meth c T L hx hZ hby hml hown hnm hret X N hH => ?_
  obtain ⟨T', X', e', stp⟩ := castY X hx hZ hown w rfl (F _ hH) (g := mkF m pc Ls (.ref a :: st)) rfl rfl (hb hby hd)
  exact ⟨T', L, k, j, H, _, Ls, .ref a :: st, X', by rw [e']; exact Nat.le_refl _, N, by rw [e']; exact hH, hr, stp⟩
theorem wp_instY {a : Addr} {K : String} {idx : Nat} (hd : Dc bytes pc (.instanceof idx) 3 pc') (w : (Cond.classLink own idx K).before a0 Z = true) (F : ∀ h, Hp Z h H → Ins Z h a K true) (hr : Wp b l Z own nm bytes maxL ret R H k j pc' Ls (.int 1 :: st) Q) : Wp b l Z own nm bytes maxL ret R H k j pc Ls (.ref a :: st) Q := by
  obtain ⟨hd, rfl⟩ := hd
  refine Wp.stepH fun p e s m args below meth c T L hx hZ hby hml hown hnm hret X N hH => ?_
  obtain ⟨T', X', e', stp⟩ := instY X hx hZ hown w rfl (F _ hH) (g := mkF m pc Ls (.ref a :: st)) rfl rfl (hb hby hd)
  exact ⟨T', L, k, j, H, _, Ls, .int 1 :: st, X', by rw [e']; exact Nat.le_refl _, N, by rw [e']; exact hH, hr, stp⟩
theorem wp_instN {a : Addr} {C K : String} {idx : Nat} (hd : Dc bytes pc (.instanceof idx) 3 pc') (w : (Cond.classLink own idx K).before a0 Z = true) (E : ExaAt Z H a C) (F : ∃ c t, Z.vm.findClass C = some c ∧ Z.vm.findClass K = some t ∧ Z.vm.assignable c t = false) (hr : Wp b l Z own nm bytes maxL ret R H k j pc' Ls (.int 0 :: st) Q) : Wp b l Z own nm bytes maxL ret R H k j pc Ls (.ref a :: st) Q := by
  obtain ⟨hd, rfl⟩ := hd
  refine Wp.stepH fun p e s m args below meth c T L hx hZ hby hml hown hnm hret X N hH => ?_
  obtain ⟨T', X', e', stp⟩ := instNo X hx hZ hown w rfl (E _ hH) F (g := mkF m pc Ls (.ref a :: st)) rfl rfl (hb hby hd)
  exact ⟨T', L, k, j, H, _, Ls, .int 0 :: st, X', by rw [e']; exact Nat.le_refl _, N, by rw [e']; exact hH, hr, stp⟩
theorem wp_anewarray {C : String} {idx : Nat} {n : Int32} (cnt cap : Nat) (hd : Dc bytes pc (.anewarray idx) 3 pc') (w1 : (Cond.classLink own idx C).before a0 Z = true) (w2 : (Cond.arrayOver (.object C)).before a0 Z = true) (hn : ¬ n < 0) (hcnt : n.toNatClampNeg = cnt) (hcap : cnt ≤ cap) (hb8 : cap * 8 ≤ 536870912) (hc : k + 1 ≤ R.cells) (hl : j + cap ≤ R.slots) (hr : ∀ a, Wp b l Z own nm bytes maxL ret R ((a, oR C (.object C) (List.replicate cnt .null)) :: H) (k + 1) (j + cap) pc' Ls (.ref a :: st) Q) : Wp b l Z own nm bytes maxL ret R H k j pc Ls (.int n :: st) Q := by
  obtain ⟨hd, rfl⟩ := hd
  refine Wp.stepH fun p e s m args below meth c T L hx hZ hby hml hown hnm hret X N hH => ?_
  obtain ⟨T', h', cA, X', e', E', A', B', O', stp⟩ := newRE X hx hZ hown w1 w2 rfl (g := mkF m pc Ls (.int n :: st)) rfl (hb hby hd) rfl hn (cap := cap) (by rw [hcnt]; exact hcap) hb8 hc hl rfl
  subst e'
  refine ⟨T', L, _, _, _, _, Ls, _, X', E'.1, N, hH.cons E' (o := .inr (.inr (.inr (_, _, List.replicate cnt .null)))) ⟨B', _, A', O', ?_, fun v hv => ?_⟩, hr _, stp⟩
  · simp [newA, hcnt, defaultValue]
  · rw [(List.mem_replicate.mp hv).2]; rfl
theorem Sto.ofT {h : Heap} {a y : Addr} {cl : Cell} {ty ty' : FieldType} {C : String} (A : Arr Z h a cl ty') (O : OvrT Z cl.cls C ty) (I : Ins Z h y C true) : Sto Z h a (.ref y) := by
  obtain ⟨k, comp, o1, o2, o3⟩ := O
  obtain ⟨cv, cT, i1, i2, i3⟩ := I
  cases o3.symm.trans i2
  simp only [Bool.and_eq_true, Bool.not_eq_true'] at i3
  obtain ⟨kc, q⟩ := Vm.classAt_of_findClass o3
  obtain ⟨kv, q2⟩ := Vm.classAt_of_assignable i3.2 ⟨kc, q⟩
  exact Or.inr ⟨cl, cv, k, kv, kc, _, _, y, A.1, o1, o2, q, rfl, i1, i3.1, q2, i3.2⟩
theorem wp_aastore {i : Nat} {a : Addr} {C : String} {ty : FieldType} {xs : List Value} {n : Int32} {x : Value} (m : Nat) (hd : Dc bytes pc .aastore 1 pc') (hi : H[i]? = some (a, oR C ty xs)) (hty : ty.isReference = true) (hn : ¬ n < 0) (hm : n.toNatClampNeg = m) (hin : m < xs.length) (F : x = .null ∨ ∃ y, x = .ref y ∧ ∀ h, Hp Z h H → Ins Z h y C true) (hr : Wp b l Z own nm bytes maxL ret R (H.set i (a, oR C ty (xs.set m x))) k j pc' Ls st Q) : Wp b l Z own nm bytes maxL ret R H k j pc Ls (x :: .int n :: .ref a :: st) Q := by
  obtain ⟨hd, rfl⟩ := hd
  refine Wp.stepH fun p e s mm args below meth c T L hx hZ hby hml hown hnm hret X N hH => ?_
  subst hm
  obtain ⟨Eq, cl, A, O, hs, G⟩ := (hH.at hi).2
  obtain ⟨h1, -⟩ := in_of hs hn (v := xs[n.toNatClampNeg]) (by simp [hin])
  have S : Sto Z T.heap a x := by
    rcases F with rfl | ⟨y, rfl, F⟩
    · exact Or.inl rfl
    · exact Sto.ofT A O (F _ hH)
  obtain ⟨T', h', X', e', W', stp⟩ := stR X hx hZ rfl A h1 hty S (g := mkF mm pc Ls (x :: .int n :: .ref a :: st)) rfl rfl (hb hby hd)
  subst e'
  exact ⟨T', _, k, j, _, _, Ls, st, X', by rw [W'.size]; exact Nat.le_refl _, Fr.snoc X' N ((hH.at hi).1 rfl), hH.set hi W' (o' := .inr (.inr (.inr (C, ty, xs.set n.toNatClampNeg x)))) ⟨Eq.wr W', _, A.same W', O, setSlot_list hs, fun y hy => (List.mem_or_eq_of_mem_set hy).elim (G y) fun q => by rw [q]; rcases F with rfl | ⟨y, rfl, F⟩ <;> rfl⟩, hr, stp⟩
theorem sta_of {args : Array Value} {s : State} {C n d K : String} (h : (Cond.exactly (Term.static C n d) K).value args s none s [] = some true) (wi : (Cond.initialized C).before args s = true) (wl : (Cond.laysStatic C n d).before args s = true) : ∃ a, Sta s s.heap C n d (.ref a) ∧ Exa s s.heap a K ∧ (Term.static C n d).eval args s none [] s = some (.ref a) := by
  obtain ⟨a, e⟩ := exa_v h
  exact ⟨a, Sta.start e (Or.inr ⟨wi, wl⟩), Exa.start e h, e⟩
theorem fld_of {args : Array Value} {s : State} {t : Term} {a : Addr} {C n d : String} {v : Int32} (e : t.eval args s none [] s = some (.ref a)) (h : (Cond.eq (Term.field t C n d) (Term.int v)).value args s none s [] = some true) : Fld s s.heap a C n d (.int v) :=
  Fld.start ((fld_at e).symm.trans (Cond.eq_int (Cond.before_iff.mpr h) rfl))
theorem Sat.keep {h h' : Heap} {b : Addr} {ws : List Addr} (K : Keep h h' ws) (q : b ∉ ws) : ∀ {o : ObjB}, Sat Z h b o → Sat Z h' b o
  | .inl (C, sg, vs), ⟨h1, h2, h3⟩ => ⟨h1.keep K, h2, fun i f v r t => (h3 i f v r t).keep K q⟩
  | .inr (.inl (ty, xs)), ⟨r, c, h1, h2⟩ => ⟨r.imp id (·.keep K), c, ⟨K.2.1 _ _ h1.1 q, h1.2⟩, h2⟩
  | .inr (.inr (.inl xs)), ⟨r, c, h1, h2⟩ => ⟨r.keep K, c, ⟨K.2.1 _ _ h1.1 q, h1.2⟩, h2⟩
  | .inr (.inr (.inr (C, ty, vs))), ⟨r, c, h1, h2⟩ => ⟨r.keep K, c, ⟨K.2.1 _ _ h1.1 q, h1.2⟩, h2⟩
theorem Hp.setK {h h' : Heap} (P : Hp Z h H) {i : Nat} {a : Addr} {o o' : ObjB} (q : H[i]? = some (a, (true, o))) (K : Keep h h' [a]) (S : Sat Z h' a o') : Hp Z h' (H.set i (a, (true, o'))) := by
  have g : Z.heap.size ≤ a := (P.at q).1 rfl
  obtain ⟨hi, hq⟩ := List.getElem?_eq_some_iff.mp q
  refine ⟨⟨Nat.le_trans P.1.1 K.1, fun b c r => ?_⟩, fun x hx => ?_, ?_⟩
  · have : b < Z.heap.size := (Array.getElem?_eq_some_iff.mp r).1
    exact K.2.1 _ _ (P.1.2 b c r) (ninS (by rintro rfl; exact absurd this (Nat.not_lt.mpr g)) nin0)
  · obtain ⟨n, hn⟩ := List.getElem?_of_mem hx
    rw [List.getElem?_set] at hn
    split at hn
    · have e0 : (a, (true, o')) = x := by simpa [hi] using hn
      subst e0; exact ⟨fun _ => g, S⟩
    · rename_i ne
      exact ⟨(P.at hn).1, (P.at hn).2.keep K (ninS (P.ne hn q (Or.inr rfl) (Ne.symm ne)) nin0)⟩
  · have e : (H.set i (a, (true, o'))).map (fun x => (x.1, x.2.1)) = H.map (fun x => (x.1, x.2.1)) := by
      rw [List.map_set]
      refine List.ext_getElem? fun n => ?_
      rw [List.getElem?_set]
      split
      · rename_i e; subst e
        simp [hi, hq]
      · rfl
    have h1 : (H.map (fun x => (x.1, x.2.1))).Pairwise (fun u v => (u.2 = true ∨ v.2 = true) → u.1 ≠ v.1) := List.pairwise_map.mpr P.2.2
    rw [← e] at h1
    exact List.pairwise_map.mp h1
theorem nat_i32 {n : Nat} (h : n < 2 ^ 31) : (Int32.ofNat n).toNatClampNeg = n ∧ ¬ Int32.ofNat n < 0 := by
  have e : (Int32.ofNat n).toInt = n := Int32.toInt_ofNat_of_lt h
  refine ⟨by simp only [Int32.toNatClampNeg, e]; omega, ?_⟩
  rw [Int32.lt_iff_toInt_lt, e]; simp only [Int32.reduceToInt]; omega
theorem Sat.arv {h : Heap} {a : Addr} {ty : FieldType} {xs : List Int32} (S : Sat Z h a (.inr (.inl (ty, xs)))) (hl : xs.length < 2 ^ 31) : ∃ kc, Arv Z h a kc ty (Int32.ofNat xs.length) (xs.map Value.int) (.int 0) := by
  obtain ⟨-, c, A, hs, G⟩ := S
  refine ⟨c.cls, c, A, rfl, by rw [hs, (nat_i32 hl).1]; simp, (nat_i32 hl).2, fun i hi => ?_, fun i hi => ?_⟩
  · rw [hs] at hi ⊢; simp at hi; simp [hi]
  · rw [hs] at hi; simp at hi; simp [hi, G _ (List.getElem_mem hi)]
theorem Arv.sat {h : Heap} {a : Addr} {kc : ClassId} {ty : FieldType} {xs : List Int32} (V : Arv Z h a kc ty (Int32.ofNat xs.length) (xs.map Value.int) (.int 0)) (hl : xs.length < 2 ^ 31) (Eq : ty = .byte ∨ Exa Z h a ("[" ++ ty.toString)) : Sat Z h a (.inr (.inl (ty, xs))) := by
  obtain ⟨c, A, -, S, -, Hs, G⟩ := V
  rw [(nat_i32 hl).1] at S
  refine ⟨Eq, c, A, ?_, fun x hx => ?_⟩
  · refine Array.ext_getElem? fun i => ?_
    by_cases hi : i < c.slots.size
    · rw [Hs i hi]; rw [S] at hi; simp [hi]
    · rw [Array.getElem?_eq_none (Nat.le_of_not_lt hi)]; rw [S] at hi; symm; simp; omega
  · obtain ⟨i, hi, rfl⟩ := List.getElem_of_mem hx
    have := G i (by rw [S]; exact hi)
    simpa [hi] using this
theorem wp_arraycopyI {i i' : Nat} {a c' : Addr} {fl : Bool} {ty : FieldType} {xs ys : List Int32} {sp dp nn : Int32} {idx : Nat} (m1 m2 m3 : Nat) (hd : Dc bytes pc (.invokestatic idx) 3 pc') (w1 : (Cond.methodLink own idx Jvm.Stand.acN).before a0 Z = true) (w2 : (Cond.native Jvm.Stand.acN).before a0 Z = true) (w3 : (Cond.static Jvm.Stand.acN).before a0 Z = true) (w4 : (Cond.initialized "java/lang/System").before a0 Z = true) (hi : H[i]? = some (a, (fl, .inr (.inl (ty, xs))))) (hi' : H[i']? = some (c', oA ty ys)) (hp : refKind ty = false) (h1 : ¬ sp < 0) (h2 : ¬ dp < 0) (h3 : ¬ nn < 0) (e1 : sp.toNatClampNeg = m1) (e2 : dp.toNatClampNeg = m2) (e3 : nn.toNatClampNeg = m3) (h4 : m1 + m3 ≤ xs.length) (h5 : m2 + m3 ≤ ys.length) (hx31 : xs.length < 2 ^ 31) (hy31 : ys.length < 2 ^ 31) (hsz : Ls.size = maxL) (hf : 1 ≤ R.frames) (hl : (st.map fun v => v.category).sum + (nativeFrameWords "java/lang/System" "arraycopy" 5 + 11) ≤ R.locals) (hr : Wp b l Z own nm bytes maxL ret R (H.set i' (c', oA ty (ys.take m2 ++ (xs.drop m1).take m3 ++ ys.drop (m2 + m3)))) k j pc' Ls st Q) : Wp b l Z own nm bytes maxL ret R H k j pc Ls (.int nn :: .int dp :: .ref c' :: .int sp :: .ref a :: st) Q := by
  obtain ⟨hd, rfl⟩ := hd
  subst e1 e2 e3
  refine Wp.stepH fun p e s m args below meth c T L hx hZ hby hml hown hnm hret X N hH => ?_
  obtain ⟨kc, V1⟩ := (hH.at hi).2.arv hx31
  obtain ⟨kd, V2⟩ := (hH.at hi').2.arv hy31
  obtain ⟨T', h', L', X', e', N', K', V', stp⟩ := cpA X hx hZ hown w1 w2 w3 w4 rfl V1 V2 (Or.inl ⟨rfl, hp⟩) h1 h2 h3 (by rw [(nat_i32 hx31).1]; exact h4) (by rw [(nat_i32 hy31).1]; exact h5) (us := ((xs.drop sp.toNatClampNeg).take nn.toNatClampNeg).map Value.int) (by
    refine List.ext_getElem? fun n => ?_
    simp only [List.getElem?_map, List.getElem?_range]
    by_cases hn : n < nn.toNatClampNeg
    · simp [hn, show sp.toNatClampNeg + n < xs.length by omega]
    · simp [hn]; omega) (by simpa using h5) N ((hH.at hi').1 rfl) (g := mkF m pc Ls (.int nn :: .int dp :: .ref c' :: .int sp :: .ref a :: st)) rfl (by rw [hml]; exact hsz) rfl (hb hby hd) hf (W := (st.map fun v => v.category).sum) (by show 2 * 0 + _ ≤ _; omega) hl
  subst e'
  have hlen : (ys.take dp.toNatClampNeg ++ (xs.drop sp.toNatClampNeg).take nn.toNatClampNeg ++ ys.drop (dp.toNatClampNeg + nn.toNatClampNeg)).length = ys.length := by
    simp only [List.length_append, List.length_take, List.length_drop]; omega
  refine ⟨T', L', k, j, _, _, Ls, st, X', K'.1, N', hH.setK hi' K' (Arv.sat (kc := kd) ?_ (by rw [hlen]; exact hy31) ((hH.at hi').2.1.imp id (·.keep K'))), hr, stp⟩
  rw [hlen]
  simpa [List.map_append, List.map_take, List.map_drop] using V'
theorem wp_anewarrayA {C : String} {ty : FieldType} {idx : Nat} {n : Int32} (cnt cap : Nat) (hd : Dc bytes pc (.anewarray idx) 3 pc') (hC : (FieldType.array ty).toString = C) (w1 : (Cond.classLink own idx C).before a0 Z = true) (w2 : (Cond.arrayOver (.array ty)).before a0 Z = true) (hn : ¬ n < 0) (hcnt : n.toNatClampNeg = cnt) (hcap : cnt ≤ cap) (hb8 : cap * 8 ≤ 536870912) (hc : k + 1 ≤ R.cells) (hl : j + cap ≤ R.slots) (hr : ∀ a, Wp b l Z own nm bytes maxL ret R ((a, oR C (.array ty) (List.replicate cnt .null)) :: H) (k + 1) (j + cap) pc' Ls (.ref a :: st) Q) : Wp b l Z own nm bytes maxL ret R H k j pc Ls (.int n :: st) Q := by
  obtain ⟨hd, rfl⟩ := hd
  refine Wp.stepH fun p e s m args below meth c T L hx hZ hby hml hown hnm hret X N hH => ?_
  obtain ⟨T', h', cA, X', e', E', A', B', O', stp⟩ := newRA X hx hZ hown hC w1 w2 rfl (g := mkF m pc Ls (.int n :: st)) rfl (hb hby hd) rfl hn (cap := cap) (by rw [hcnt]; exact hcap) hb8 hc hl rfl
  subst e'
  refine ⟨T', L, _, _, _, _, Ls, _, X', E'.1, N, hH.cons E' (o := .inr (.inr (.inr (C, .array ty, List.replicate cnt .null)))) ⟨by rw [hC]; exact B', _, A', O', ?_, fun v hv => ?_⟩, hr _, stp⟩
  · simp [newA, hcnt, defaultValue]
  · rw [(List.mem_replicate.mp hv).2]; rfl
theorem ins_arr {i : Nat} {a : Addr} {fl : Bool} {ty : FieldType} {xs : List Int32} {K : String} (hi : H[i]? = some (a, (fl, .inr (.inl (ty, xs))))) (hty : ty ≠ .byte) (wc : (Cond.castable ("[" ++ ty.toString) K).before a0 Z = true) : ∀ h, Hp Z h H → Ins Z h a K true := fun h P => Ins.of_exa ((P.at hi).2.1.resolve_left hty) wc
theorem ins_new {i : Nat} {a : Addr} {fl : Bool} {C K : String} {sg : OSig} {vs : List Value} (hi : H[i]? = some (a, (fl, .inl (C, sg, vs)))) (wc : (Cond.castable C K).before a0 Z = true) : ∀ h, Hp Z h H → Ins Z h a K true := fun h P => Ins.of_exa (P.at hi).2.1 wc
theorem ns_root {O K : String} {kk : Nat} (w : (Cond.noSuperclass O).before a0 Z = true) (wk : (Cond.instantiable K kk).before a0 Z = true) (hn : O ≠ K) : NS Z O K := by
  obtain ⟨c, k, h1, h2, h3, -, -⟩ := Cond.noSuperclass_spec w
  obtain ⟨t, kt, g1, -⟩ := Cond.instantiable_spec wk
  have ne := ids_ne h1 g1 hn
  refine ⟨c, t, h1, g1, fun fuel => ?_⟩
  cases fuel with
  | zero => rfl
  | succ f => simp [Vm.isSubclassAux, ne, h2, h3]
theorem ns_no {C S K : String} {kk : Nat} (w : (Cond.superclass C S).before a0 Z = true) (wk : (Cond.instantiable K kk).before a0 Z = true) (n : NS Z C K) (hn : C ≠ K) : ∃ c t, Z.vm.findClass C = some c ∧ Z.vm.findClass K = some t ∧ Z.vm.assignable c t = false := by
  obtain ⟨c, t, h0, g0, n3⟩ := n
  obtain ⟨p, k, kp, h1, h2, h3, h4, h5, -, h7⟩ := Cond.superclass_spec h0 w
  obtain ⟨t', kt, g1, g2, g5, g6, -⟩ := Cond.instantiable_spec wk
  cases g0.symm.trans g1
  have g7 : kt.isInterface = false := by cases q : kt.isInterface with | false => rfl | true => rw [q] at g6; cases g6
  have ne := ids_ne h0 g0 hn
  refine ⟨c, t, h0, g0, ?_⟩
  show Z.vm.assignableAux (255 + 1) c t = false
  simp [Vm.assignableAux, ne, h2, g2, h5, g5, g7, Vm.isSubclass, n3]
theorem wp_aaload_old {a : Addr} {cl : Cell} {ty : FieldType} {n : Int32} {x : Value} (hd : Dc bytes pc .aaload 1 pc') (A : Arr Z Z.heap a cl ty) (hty : ty.isReference = true) (hin : ¬ (n < 0 ∨ cl.slots.size ≤ n.toNatClampNeg)) (hv : cl.slots[n.toNatClampNeg]? = some x) (hr : Wp b l Z own nm bytes maxL ret R H k j pc' Ls (x :: st) Q) : Wp b l Z own nm bytes maxL ret R H k j pc Ls (.int n :: .ref a :: st) Q := by
  obtain ⟨hd, rfl⟩ := hd
  refine Wp.step (fun p e s m args below meth c T L hx hZ hby hown X hH target h => ?_) hr
  exact X.aaload hx (hH.1.2 _ _ A.1) (State.isArrayOf_alike hZ.alike A.2.1) hty A.2.2 hin hv (g := mkF m pc Ls (.int n :: .ref a :: st)) rfl rfl (hb hby hd) _ h
theorem Hp.old {h : Heap} (P : Hp Z h H) {a : Addr} {o : ObjB} (S : Sat Z Z.heap a o) : Hp Z h ((a, (false, o)) :: H) :=
  ⟨P.1, fun x q => (List.mem_cons.mp q).elim (fun e => by subst e; exact ⟨(fun e => nomatch e), S.ext P.1⟩) fun q => P.2.1 x q,
    List.Pairwise.cons (fun y q t e => absurd ((P.2.1 y q).1 (t.elim (fun e => nomatch e) id)) (by rw [← e]; exact Nat.not_le.mpr S.lt)) P.2.2⟩
/-- an object of the start is laid to the list, only to be read -/
theorem Wp.old {a : Addr} {o : ObjB} (S : Sat Z Z.heap a o) (hr : Wp b l Z own nm bytes maxL ret R ((a, (false, o)) :: H) k j pc Ls st Q) : Wp b l Z own nm bytes maxL ret R H k j pc Ls st Q :=
  Wp.stepH fun p e s m args below meth c T L hx hZ hby hml hown hnm hret X N hH => ⟨T, L, k, j, _, pc, Ls, st, X, Nat.le_refl _, N, hH.old S, hr, fun _ q => q⟩
abbrev sgStr : OSig := [("java/lang/String", "value", "[B"), ("java/lang/String", "coder", "B")]
abbrev strO (v : Addr) : Obj := fI "java/lang/String" sgStr [.ref v, .int 0]
theorem wp_ldcV {text : String} {Ts : List String} {idx n : Nat} (xs : List Int32) (hd : Dc bytes pc (.ldc idx) 2 pc') (w : (Cond.stringLink own idx text).before a0 Z = true) (wS : ∀ a ∈ Bundle.stringAtoms, a.before a0 Z = true) (slo : Slo Z sgStr) (hh : Jvm.Lit.constHeld Z own idx) (hcw : Jvm.Lit.compactW.before a0 Z = true) (hnot : text ∉ Ts) (ht : (∀ c ∈ text.toList, c.toNat < 256) ∧ text.toList.map (fun c => Value.int (Jvm.Lit.byteI c.toNat.toUInt16)) = xs.map Value.int) (h31 : xs.length < 2 ^ 31) (hn : 4 * text.toList.length ≤ n) (hbig : n ≤ 536870912) (hc : k + 2 ≤ R.cells) (hl : j + (n + 4) ≤ R.slots) (hr : ∀ a v, Wp (some (some (text :: Ts))) l Z own nm bytes maxL ret R ((a, strO v) :: (v, fA .byte xs) :: H) (k + 2) (j + (n + 4)) pc' Ls (.ref a :: st) Q) : Wp (some (some Ts)) l Z own nm bytes maxL ret R H k j pc Ls st Q := by
  obtain ⟨hd, rfl⟩ := hd
  intro p e s vm0 k0 m args below meth c T L hx hZ hS hk hby hml hown hnm hret X N hH hB
  obtain ⟨eZ, I⟩ := hB Ts rfl
  obtain ⟨a, T', h', k1, v, kc, X', e', E', hS', hk1, hZ', hown', A1, A2, A3, A4, l1, l2, I', -, wh, stp⟩ := ldcSVd X hx hZ hown w wS rfl hS hk (by rw [eZ]; exact N) (fun b cl q => by rw [eZ]; exact q) I hnot hh hcw (z := Int32.ofNat xs.length) ht (nat_i32 h31).2 (by rw [(nat_i32 h31).1]; simp) (g := mkF m pc Ls st) rfl (hb hby hd) hn hbig hc hl
  subst e'
  have far : ∀ y ∈ H, y.2.1 = true → a ≠ y.1 ∧ v ≠ y.1 := by
    intro y q t
    have g1 := (hH.2.1 y q).1 t
    have g2 := (hH.2.1 y q).2.lt
    rw [eZ] at wh
    constructor
    · intro e0; rw [← e0] at g1 g2
      rcases wh with w1 | w1
      · exact absurd w1.1 (Nat.not_lt.mpr g1)
      · exact absurd g2 (Nat.not_lt.mpr w1.1)
    · intro e0; rw [← e0] at g1 g2
      rcases wh with w1 | w1
      · exact absurd w1.2 (Nat.not_lt.mpr g1)
      · exact absurd g2 (Nat.not_lt.mpr w1.2)
  have Sa : Sat Z T'.heap a (.inl ("java/lang/String", sgStr, [.ref v, .int 0])) := by
    refine ⟨A1, slo, fun i f u q r => ?_⟩
    rcases i with _ | _ | i
    · cases q; cases r; exact A3
    · cases q; cases r; exact A2
    · simp at q
  have Sv : Sat Z T'.heap v (.inr (.inl (.byte, xs))) := Arv.sat A4 h31 (Or.inl rfl)
  have H2 : Hp Z T'.heap ((a, strO v) :: (v, fA .byte xs) :: H) := by
    have h0 := hH.ext E'
    refine ⟨h0.1, fun x q => ?_, List.Pairwise.cons (fun y q t => ?_) (List.Pairwise.cons (fun y q t => ?_) h0.2.2)⟩
    · rcases List.mem_cons.mp q with rfl | q
      · exact ⟨(fun e => nomatch e), Sa⟩
      · rcases List.mem_cons.mp q with rfl | q
        · exact ⟨(fun e => nomatch e), Sv⟩
        · exact h0.2.1 x q
    · rcases List.mem_cons.mp q with rfl | q
      · rcases t with t | t <;> cases t
      · exact (far y q (t.elim (fun e => nomatch e) id)).1
    · exact (far y q (t.elim (fun e => nomatch e) id)).2
  obtain ⟨T2, u, L2, k2, j2, vm1, k3, H3, ⟨r0, r1, r2⟩, r3, ⟨r4, r5, r6⟩, r7, r8, r9, r10, r11⟩ := hr a v p e s T'.vm k1 m args below meth c T' L hx hZ' hS' hk1 hby hml hown' hnm hret X' N H2 (fun Ts' q => by cases q; exact ⟨eZ, I'⟩)
  exact ⟨T2, u, L2, k2, j2, vm1, k3, H3, ⟨r0, r1, fun q => nomatch q⟩, r3, ⟨r4, r5, Nat.le_trans E'.1 r6⟩, r7, r8, r9, r10, fun fs hl => stp _ (r11 fs hl)⟩
theorem Fld.fun {h : Heap} {a : Addr} {C n d : String} {u v : Value} (F : Fld Z h a C n d u) (G : Fld Z h a C n d v) : u = v := by
  obtain ⟨c, cf, k, i, f, h1, h2, -, -, -, -, h7⟩ := F
  obtain ⟨c', cf', k', i', f', g1, g2, -, -, -, -, g7⟩ := G
  cases h1.symm.trans g1
  cases h2.symm.trans g2
  exact Option.some.inj (h7.symm.trans g7)
/-- two Strings of unlike contents are two -/
theorem str_ne {h : Heap} {i i' k k' : Nat} {s s' v v' : Addr} {xs ys : List Int32} (P : Hp Z h H) (h1 : H[i]? = some (s, strO v)) (h2 : H[k]? = some (v, fA .byte xs)) (h3 : H[i']? = some (s', strO v')) (h4 : H[k']? = some (v', fA .byte ys)) (ne : xs ≠ ys) : ¬ Value.ref s = Value.ref s' := by
  intro e
  cases e
  have f1 := (P.at h1).2.2.2 0 _ _ rfl rfl
  have f2 := (P.at h3).2.2.2 0 _ _ rfl rfl
  cases Fld.fun f1 f2
  obtain ⟨-, c, A, hs, -⟩ := (P.at h2).2
  obtain ⟨-, c', A', hs', -⟩ := (P.at h4).2
  cases A.1.symm.trans A'.1
  have e0 : xs.map Value.int = ys.map Value.int := congrArg Array.toList (hs.symm.trans hs')
  exact ne (List.map_inj_right (fun a b q => by cases q; rfl) |>.mp e0)
theorem bytes_old {t : Term} {a : Addr} {xs : List Int32} {cl : Cell} (A : Arr Z Z.heap a cl .byte) (hs : cl.slots = (xs.map Value.int).toArray) (hf : ∀ x ∈ xs, fits .byte (.int x) = true) : Sat Z Z.heap a (.inr (.inl (.byte, xs))) := ⟨Or.inl rfl, cl, A, hs, hf⟩
theorem str_old {a v : Addr} (slo : Slo Z sgStr) (E : Exa Z Z.heap a "java/lang/String") (F : Fld Z Z.heap a "java/lang/String" "value" "[B" (.ref v)) (G : Fld Z Z.heap a "java/lang/String" "coder" "B" (.int 0)) : Sat Z Z.heap a (.inl ("java/lang/String", sgStr, [.ref v, .int 0])) := by
  refine ⟨E, slo, fun i f u q r => ?_⟩
  rcases i with _ | _ | i
  · cases q; cases r; exact F
  · cases q; cases r; exact G
  · simp at q
end Own
def sg_1 : OSig := [("com/example/dalles/dalles/schema/Sequence", "qualifiedName", "Ljava/lang/String;"), ("com/example/dalles/dalles/schema/Sequence", "name", "Ljava/lang/String;")]
theorem laid_sg_1 (l : Launch) (Z : State) (a0 : Array Value) (hw : ∀ d ∈ tables_1, d.before a0 Z = true) : ∀ f ∈ sg_1, Laid Z a0 "com/example/dalles/dalles/schema/Sequence" f.1 f.2.1 f.2.2 := all_cons (Or.inr (hw _ (List.mem_of_getElem? (i := 19) rfl))) (all_cons (Or.inr (hw _ (List.mem_of_getElem? (i := 21) rfl))) (all_nil))
theorem dfl_sg_1 : Dfl sg_1 [(.null), (.null)] := ⟨⟨(.object "java/lang/String"), by decide +kernel, rfl⟩, ⟨(.object "java/lang/String"), by decide +kernel, rfl⟩, trivial⟩
def sg_2 : OSig := [("com/example/dalles/dalles/schema/Fill", "sequence", "Lcom/example/dalles/dalles/schema/Sequence;"), ("com/example/dalles/dalles/schema/Fill", "randomUuid", "Z")]
theorem laid_sg_2 (l : Launch) (Z : State) (a0 : Array Value) (hw : ∀ d ∈ tables_1, d.before a0 Z = true) : ∀ f ∈ sg_2, Laid Z a0 "com/example/dalles/dalles/schema/Fill" f.1 f.2.1 f.2.2 := all_cons (Or.inr (hw _ (List.mem_of_getElem? (i := 39) rfl))) (all_cons (Or.inr (hw _ (List.mem_of_getElem? (i := 41) rfl))) (all_nil))
theorem dfl_sg_2 : Dfl sg_2 [(.null), (.int (0 : Int32))] := ⟨⟨(.object "com/example/dalles/dalles/schema/Sequence"), by decide +kernel, rfl⟩, ⟨.boolean, by decide +kernel, rfl⟩, trivial⟩
def sg_3 : OSig := [("com/example/dalles/dalles/schema/PostgreSqlColumn", "defaultFill", "Lcom/example/dalles/dalles/schema/Fill;"), ("com/example/dalles/dalles/schema/PostgreSqlColumn", "highestValue", "Ljava/util/Optional;"), ("com/example/dalles/dalles/schema/PostgreSqlColumn", "name", "Ljava/lang/String;"), ("com/example/dalles/dalles/schema/PostgreSqlColumn", "type", "Ljava/lang/String;"), ("com/example/dalles/dalles/schema/PostgreSqlColumn", "line", "I"), ("com/example/dalles/dalles/schema/PostgreSqlColumn", "hasDefault", "Z"), ("com/example/dalles/dalles/schema/PostgreSqlColumn", "identity", "Lcom/example/dalles/dalles/schema/Sequence;")]
theorem laid_sg_3 (l : Launch) (Z : State) (a0 : Array Value) (hw : ∀ d ∈ tables_1, d.before a0 Z = true) : ∀ f ∈ sg_3, Laid Z a0 "com/example/dalles/dalles/schema/PostgreSqlColumn" f.1 f.2.1 f.2.2 := all_cons (Or.inl (hw _ (List.mem_of_getElem? (i := 54) rfl))) (all_cons (Or.inl (hw _ (List.mem_of_getElem? (i := 61) rfl))) (all_cons (Or.inr (hw _ (List.mem_of_getElem? (i := 63) rfl))) (all_cons (Or.inr (hw _ (List.mem_of_getElem? (i := 65) rfl))) (all_cons (Or.inr (hw _ (List.mem_of_getElem? (i := 67) rfl))) (all_cons (Or.inl (hw _ (List.mem_of_getElem? (i := 75) rfl))) (all_cons (Or.inl (hw _ (List.mem_of_getElem? (i := 82) rfl))) (all_nil)))))))
theorem dfl_sg_3 : Dfl sg_3 [(.null), (.null), (.null), (.null), (.int (0 : Int32)), (.int (0 : Int32)), (.null)] := ⟨⟨(.object "com/example/dalles/dalles/schema/Fill"), by decide +kernel, rfl⟩, ⟨(.object "java/util/Optional"), by decide +kernel, rfl⟩, ⟨(.object "java/lang/String"), by decide +kernel, rfl⟩, ⟨(.object "java/lang/String"), by decide +kernel, rfl⟩, ⟨.int, by decide +kernel, rfl⟩, ⟨.boolean, by decide +kernel, rfl⟩, ⟨(.object "com/example/dalles/dalles/schema/Sequence"), by decide +kernel, rfl⟩, trivial⟩
theorem pn_1 : plainFor (⟨"com/example/dalles/dalles/schema/Sequence", "<init>", "(Ljava/lang/String;Ljava/lang/String;)V"⟩ : MethodName) = true := by first | exact plainFor_of_name (by first | (simp [plainName, overriddenIn]; done) | decide +kernel) | decide +kernel
theorem D_prog_55_m1_0 : Dc prog_55_method_1_code 0 (.aload_n 0) 1 1 := ⟨by decide +kernel, rfl⟩
theorem D_prog_55_m1_1 : Dc prog_55_method_1_code 1 (.invokespecial 1) 3 4 := ⟨by decide +kernel, rfl⟩
theorem D_prog_55_m1_4 : Dc prog_55_method_1_code 4 (.aload_n 0) 1 5 := ⟨by decide +kernel, rfl⟩
theorem D_prog_55_m1_5 : Dc prog_55_method_1_code 5 (.aload_n 1) 1 6 := ⟨by decide +kernel, rfl⟩
theorem D_prog_55_m1_6 : Dc prog_55_method_1_code 6 (.putfield 7) 3 9 := ⟨by decide +kernel, rfl⟩
theorem D_prog_55_m1_9 : Dc prog_55_method_1_code 9 (.aload_n 0) 1 10 := ⟨by decide +kernel, rfl⟩
theorem D_prog_55_m1_10 : Dc prog_55_method_1_code 10 (.aload_n 2) 1 11 := ⟨by decide +kernel, rfl⟩
theorem D_prog_55_m1_11 : Dc prog_55_method_1_code 11 (.putfield 13) 3 14 := ⟨by decide +kernel, rfl⟩
theorem D_prog_55_m1_14 : Dc prog_55_method_1_code 14 (.return_) 1 15 := ⟨by decide +kernel, rfl⟩
def Q_c_seq (o x y : Addr) (F : OH) : Option Value → OH → Prop := fun v H' => v = none ∧ H' = (o, oI "com/example/dalles/dalles/schema/Sequence" sg_1 [(.ref x), (.ref y)]) :: F
set_option maxRecDepth 65536 in
set_option maxHeartbeats 40000000 in
theorem c_seq (l : Launch) (Z : State) (a0 : Array Value) (hw : ∀ d ∈ tables_1, d.before a0 Z = true) (o x y : Addr) (F : OH)  :
    Met l Z (⟨"com/example/dalles/dalles/schema/Sequence", "<init>", "(Ljava/lang/String;Ljava/lang/String;)V"⟩ : MethodName) prog_55_method_1_code 3 none ({ frames := 1, cells := 0, slots := 0, locals := 12 } : Room) [(.ref o), (.ref x), (.ref y)] ((o, oI "com/example/dalles/dalles/schema/Sequence" sg_1 [(.null), (.null)]) :: F) (Q_c_seq o x y F) := by
  refine Met.of_wp (Ls := #[.val (.ref o), .val (.ref x), .val (.ref y)]) pn_1 (fun m => by first | rfl | (simp [entryFrame, mkF, argsToLocals, Value.category]; done)) ?_
  show Wp none l Z "com/example/dalles/dalles/schema/Sequence" "<init>" prog_55_method_1_code 3 none ({ frames := 1, cells := 0, slots := 0, locals := 12 } : Room) ((o, oI "com/example/dalles/dalles/schema/Sequence" sg_1 [(.null), (.null)]) :: F) 0 0 0 #[.val (.ref o), .val (.ref x), .val (.ref y)] [] (Q_c_seq o x y F)
  refine wp_aload_n D_prog_55_m1_0 rfl rfl ?_
  refine wp_initO D_prog_55_m1_1 (hw _ (List.mem_of_getElem? (i := 15) rfl)) (hw _ (List.mem_of_getElem? (i := 16) rfl)) (hw _ (List.mem_of_getElem? (i := 17) rfl)) rfl (Nat.le_of_ble_eq_true rfl) (Nat.le_of_ble_eq_true rfl) ?_
  refine wp_aload_n D_prog_55_m1_4 rfl rfl ?_
  refine wp_aload_n D_prog_55_m1_5 rfl rfl ?_
  refine wp_putfield (i := 0) (fi := 0) (ty := (.object "java/lang/String")) D_prog_55_m1_6 (hw _ (List.mem_of_getElem? (i := 18) rfl)) rfl rfl rfl (Or.inr ⟨(hw _ (List.mem_of_getElem? (i := 19) rfl)), rfl, rfl⟩) (hw _ (List.mem_of_getElem? (i := 1) rfl)) (by decide) rfl rfl ?_
  show Wp none l Z "com/example/dalles/dalles/schema/Sequence" "<init>" prog_55_method_1_code 3 none ({ frames := 1, cells := 0, slots := 0, locals := 12 } : Room) ((o, oI "com/example/dalles/dalles/schema/Sequence" sg_1 [(.ref x), (.null)]) :: F) 0 0 9 #[.val (.ref o), .val (.ref x), .val (.ref y)] [] (Q_c_seq o x y F)
  refine wp_aload_n D_prog_55_m1_9 rfl rfl ?_
  refine wp_aload_n D_prog_55_m1_10 rfl rfl ?_
  refine wp_putfield (i := 0) (fi := 1) (ty := (.object "java/lang/String")) D_prog_55_m1_11 (hw _ (List.mem_of_getElem? (i := 20) rfl)) rfl rfl rfl (Or.inr ⟨(hw _ (List.mem_of_getElem? (i := 21) rfl)), rfl, rfl⟩) (hw _ (List.mem_of_getElem? (i := 1) rfl)) (by decide) rfl rfl ?_
  show Wp none l Z "com/example/dalles/dalles/schema/Sequence" "<init>" prog_55_method_1_code 3 none ({ frames := 1, cells := 0, slots := 0, locals := 12 } : Room) ((o, oI "com/example/dalles/dalles/schema/Sequence" sg_1 [(.ref x), (.ref y)]) :: F) 0 0 14 #[.val (.ref o), .val (.ref x), .val (.ref y)] [] (Q_c_seq o x y F)
  refine wp_return D_prog_55_m1_14 rfl (by decide) (by decide) ?_
  exact ⟨rfl, rfl⟩
theorem pn_2 : plainFor (⟨"java/util/Objects", "requireNonNull", "(Ljava/lang/Object;)Ljava/lang/Object;"⟩ : MethodName) = true := by first | exact plainFor_of_name (by first | (simp [plainName, overriddenIn]; done) | decide +kernel) | decide +kernel
theorem D_jdk_31_m10_0 : Dc jdk_31_method_10_code 0 (.aload_n 0) 1 1 := ⟨by decide +kernel, rfl⟩
theorem D_jdk_31_m10_1 : Dc jdk_31_method_10_code 1 (.ifnonnull 11) 3 4 := ⟨by decide +kernel, rfl⟩
theorem D_jdk_31_m10_4 : Dc jdk_31_method_10_code 4 (.new 84) 3 7 := ⟨by decide +kernel, rfl⟩
theorem D_jdk_31_m10_7 : Dc jdk_31_method_10_code 7 (.dup) 1 8 := ⟨by decide +kernel, rfl⟩
theorem D_jdk_31_m10_8 : Dc jdk_31_method_10_code 8 (.invokespecial 86) 3 11 := ⟨by decide +kernel, rfl⟩
theorem D_jdk_31_m10_11 : Dc jdk_31_method_10_code 11 (.athrow) 1 12 := ⟨by decide +kernel, rfl⟩
theorem D_jdk_31_m10_12 : Dc jdk_31_method_10_code 12 (.aload_n 0) 1 13 := ⟨by decide +kernel, rfl⟩
theorem D_jdk_31_m10_13 : Dc jdk_31_method_10_code 13 (.areturn) 1 14 := ⟨by decide +kernel, rfl⟩
def Q_c_rnn (x : Addr) (H : OH) : Option Value → OH → Prop := fun v H' => v = some (.ref x) ∧ H' = H
set_option maxRecDepth 65536 in
set_option maxHeartbeats 40000000 in
theorem c_rnn (l : Launch) (Z : State) (a0 : Array Value) (hw : ∀ d ∈ tables_1, d.before a0 Z = true) (x : Addr) (H : OH) :
    Met l Z (⟨"java/util/Objects", "requireNonNull", "(Ljava/lang/Object;)Ljava/lang/Object;"⟩ : MethodName) jdk_31_method_10_code 1 (some (.object "java/lang/Object")) ({ frames := 0, cells := 0, slots := 0, locals := 0 } : Room) [(.ref x)] H (Q_c_rnn x H) := by
  refine Met.of_wp (Ls := #[.val (.ref x)]) pn_2 (fun m => by first | rfl | (simp [entryFrame, mkF, argsToLocals, Value.category]; done)) ?_
  show Wp none l Z "java/util/Objects" "requireNonNull" jdk_31_method_10_code 1 (some (.object "java/lang/Object")) ({ frames := 0, cells := 0, slots := 0, locals := 0 } : Room) H 0 0 0 #[.val (.ref x)] [] (Q_c_rnn x H)
  refine wp_aload_n D_jdk_31_m10_0 rfl rfl ?_
  refine wp_ifnonnull_y D_jdk_31_m10_1 (pc'' := 12) ⟨by decide, by decide⟩ ?_
  refine wp_aload_n D_jdk_31_m10_12 rfl rfl ?_
  refine wp_areturn D_jdk_31_m10_13 rfl rfl rfl rfl (by decide) (by decide) ?_
  exact ⟨rfl, rfl⟩
theorem pd_1 : parseMethodDescriptor "(Ljava/lang/Object;)Ljava/lang/Object;" = some ⟨[(.object "java/lang/Object")], (some (.object "java/lang/Object"))⟩ := by decide +kernel
theorem pd_2 : parseMethodDescriptor "(Lcom/example/dalles/dalles/schema/Sequence;Z)V" = some ⟨[(.object "com/example/dalles/dalles/schema/Sequence"), .boolean], none⟩ := by decide +kernel
theorem pn_3 : plainFor (⟨"com/example/dalles/dalles/schema/Fill", "<init>", "(Lcom/example/dalles/dalles/schema/Sequence;Z)V"⟩ : MethodName) = true := by first | exact plainFor_of_name (by first | (simp [plainName, overriddenIn]; done) | decide +kernel) | decide +kernel
theorem D_prog_24_m1_0 : Dc prog_24_method_1_code 0 (.aload_n 0) 1 1 := ⟨by decide +kernel, rfl⟩
theorem D_prog_24_m1_1 : Dc prog_24_method_1_code 1 (.invokespecial 1) 3 4 := ⟨by decide +kernel, rfl⟩
theorem D_prog_24_m1_4 : Dc prog_24_method_1_code 4 (.aload_n 0) 1 5 := ⟨by decide +kernel, rfl⟩
theorem D_prog_24_m1_5 : Dc prog_24_method_1_code 5 (.aload_n 1) 1 6 := ⟨by decide +kernel, rfl⟩
theorem D_prog_24_m1_6 : Dc prog_24_method_1_code 6 (.putfield 7) 3 9 := ⟨by decide +kernel, rfl⟩
theorem D_prog_24_m1_9 : Dc prog_24_method_1_code 9 (.aload_n 0) 1 10 := ⟨by decide +kernel, rfl⟩
theorem D_prog_24_m1_10 : Dc prog_24_method_1_code 10 (.iload_n 2) 1 11 := ⟨by decide +kernel, rfl⟩
theorem D_prog_24_m1_11 : Dc prog_24_method_1_code 11 (.putfield 13) 3 14 := ⟨by decide +kernel, rfl⟩
theorem D_prog_24_m1_14 : Dc prog_24_method_1_code 14 (.return_) 1 15 := ⟨by decide +kernel, rfl⟩
def Q_c_fill (o x : Addr) (F : OH) : Option Value → OH → Prop := fun v H' => v = none ∧ H' = (o, oI "com/example/dalles/dalles/schema/Fill" sg_2 [(.ref x), (.int (0 : Int32))]) :: F
set_option maxRecDepth 65536 in
set_option maxHeartbeats 40000000 in
theorem c_fill (l : Launch) (Z : State) (a0 : Array Value) (hw : ∀ d ∈ tables_1, d.before a0 Z = true) (o x : Addr) (F : OH)  :
    Met l Z (⟨"com/example/dalles/dalles/schema/Fill", "<init>", "(Lcom/example/dalles/dalles/schema/Sequence;Z)V"⟩ : MethodName) prog_24_method_1_code 3 none ({ frames := 1, cells := 0, slots := 0, locals := 12 } : Room) [(.ref o), (.ref x), (.int (0 : Int32))] ((o, oI "com/example/dalles/dalles/schema/Fill" sg_2 [(.null), (.int (0 : Int32))]) :: F) (Q_c_fill o x F) := by
  refine Met.of_wp (Ls := #[.val (.ref o), .val (.ref x), .val (.int (0 : Int32))]) pn_3 (fun m => by first | rfl | (simp [entryFrame, mkF, argsToLocals, Value.category]; done)) ?_
  show Wp none l Z "com/example/dalles/dalles/schema/Fill" "<init>" prog_24_method_1_code 3 none ({ frames := 1, cells := 0, slots := 0, locals := 12 } : Room) ((o, oI "com/example/dalles/dalles/schema/Fill" sg_2 [(.null), (.int (0 : Int32))]) :: F) 0 0 0 #[.val (.ref o), .val (.ref x), .val (.int (0 : Int32))] [] (Q_c_fill o x F)
  refine wp_aload_n D_prog_24_m1_0 rfl rfl ?_
  refine wp_initO D_prog_24_m1_1 (hw _ (List.mem_of_getElem? (i := 37) rfl)) (hw _ (List.mem_of_getElem? (i := 16) rfl)) (hw _ (List.mem_of_getElem? (i := 17) rfl)) rfl (Nat.le_of_ble_eq_true rfl) (Nat.le_of_ble_eq_true rfl) ?_
  refine wp_aload_n D_prog_24_m1_4 rfl rfl ?_
  refine wp_aload_n D_prog_24_m1_5 rfl rfl ?_
  refine wp_putfield (i := 0) (fi := 0) (ty := (.object "com/example/dalles/dalles/schema/Sequence")) D_prog_24_m1_6 (hw _ (List.mem_of_getElem? (i := 38) rfl)) rfl rfl rfl (Or.inr ⟨(hw _ (List.mem_of_getElem? (i := 39) rfl)), rfl, rfl⟩) (hw _ (List.mem_of_getElem? (i := 27) rfl)) (by decide) rfl rfl ?_
  show Wp none l Z "com/example/dalles/dalles/schema/Fill" "<init>" prog_24_method_1_code 3 none ({ frames := 1, cells := 0, slots := 0, locals := 12 } : Room) ((o, oI "com/example/dalles/dalles/schema/Fill" sg_2 [(.ref x), (.int (0 : Int32))]) :: F) 0 0 9 #[.val (.ref o), .val (.ref x), .val (.int (0 : Int32))] [] (Q_c_fill o x F)
  refine wp_aload_n D_prog_24_m1_9 rfl rfl ?_
  refine wp_iload_n D_prog_24_m1_10 rfl ?_
  refine wp_putfield (i := 0) (fi := 1) (ty := .boolean) D_prog_24_m1_11 (hw _ (List.mem_of_getElem? (i := 40) rfl)) rfl rfl rfl (Or.inr ⟨(hw _ (List.mem_of_getElem? (i := 41) rfl)), rfl, rfl⟩) (hw _ (List.mem_of_getElem? (i := 27) rfl)) (by decide) rfl rfl ?_
  show Wp none l Z "com/example/dalles/dalles/schema/Fill" "<init>" prog_24_method_1_code 3 none ({ frames := 1, cells := 0, slots := 0, locals := 12 } : Room) ((o, oI "com/example/dalles/dalles/schema/Fill" sg_2 [(.ref x), (.int (0 : Int32))]) :: F) 0 0 14 #[.val (.ref o), .val (.ref x), .val (.int (0 : Int32))] [] (Q_c_fill o x F)
  refine wp_return D_prog_24_m1_14 rfl (by decide) (by decide) ?_
  exact ⟨rfl, rfl⟩
theorem pn_4 : plainFor (⟨"com/example/dalles/dalles/schema/Fill", "fromSequence", "(Lcom/example/dalles/dalles/schema/Sequence;)Lcom/example/dalles/dalles/schema/Fill;"⟩ : MethodName) = true := by first | exact plainFor_of_name (by first | (simp [plainName, overriddenIn]; done) | decide +kernel) | decide +kernel
theorem D_prog_24_m2_0 : Dc prog_24_method_2_code 0 (.new 8) 3 3 := ⟨by decide +kernel, rfl⟩
theorem D_prog_24_m2_3 : Dc prog_24_method_2_code 3 (.dup) 1 4 := ⟨by decide +kernel, rfl⟩
theorem D_prog_24_m2_4 : Dc prog_24_method_2_code 4 (.aload_n 0) 1 5 := ⟨by decide +kernel, rfl⟩
theorem D_prog_24_m2_5 : Dc prog_24_method_2_code 5 (.invokestatic 17) 3 8 := ⟨by decide +kernel, rfl⟩
theorem D_prog_24_m2_8 : Dc prog_24_method_2_code 8 (.checkcast 23) 3 11 := ⟨by decide +kernel, rfl⟩
theorem D_prog_24_m2_11 : Dc prog_24_method_2_code 11 (.iconst 0) 1 12 := ⟨by decide +kernel, rfl⟩
theorem D_prog_24_m2_12 : Dc prog_24_method_2_code 12 (.invokespecial 25) 3 15 := ⟨by decide +kernel, rfl⟩
theorem D_prog_24_m2_15 : Dc prog_24_method_2_code 15 (.areturn) 1 16 := ⟨by decide +kernel, rfl⟩
def Q_c_from (q x y : Addr) (F : OH) : Option Value → OH → Prop := fun v H' => ∃ f, v = some (.ref f) ∧ H' = (f, oI "com/example/dalles/dalles/schema/Fill" sg_2 [(.ref q), (.int (0 : Int32))]) :: (q, oI "com/example/dalles/dalles/schema/Sequence" sg_1 [(.ref x), (.ref y)]) :: F
set_option maxRecDepth 65536 in
set_option maxHeartbeats 40000000 in
theorem c_from (l : Launch) (Z : State) (a0 : Array Value) (hw : ∀ d ∈ tables_1, d.before a0 Z = true) (q x y : Addr) (F : OH)  :
    Met l Z (⟨"com/example/dalles/dalles/schema/Fill", "fromSequence", "(Lcom/example/dalles/dalles/schema/Sequence;)Lcom/example/dalles/dalles/schema/Fill;"⟩ : MethodName) prog_24_method_2_code 1 (some (.object "com/example/dalles/dalles/schema/Fill")) ({ frames := 2, cells := 1, slots := 2, locals := 40 } : Room) [(.ref q)] ((q, oI "com/example/dalles/dalles/schema/Sequence" sg_1 [(.ref x), (.ref y)]) :: F) (Q_c_from q x y F) := by
  refine Met.of_wp (Ls := #[.val (.ref q)]) pn_4 (fun m => by first | rfl | (simp [entryFrame, mkF, argsToLocals, Value.category]; done)) ?_
  show Wp none l Z "com/example/dalles/dalles/schema/Fill" "fromSequence" prog_24_method_2_code 1 (some (.object "com/example/dalles/dalles/schema/Fill")) ({ frames := 2, cells := 1, slots := 2, locals := 40 } : Room) ((q, oI "com/example/dalles/dalles/schema/Sequence" sg_1 [(.ref x), (.ref y)]) :: F) 0 0 0 #[.val (.ref q)] [] (Q_c_from q x y F)
  refine wp_new sg_2 [(.null), (.int (0 : Int32))] D_prog_24_m2_0 (hw _ (List.mem_of_getElem? (i := 26) rfl)) (hw _ (List.mem_of_getElem? (i := 27) rfl)) (hw _ (List.mem_of_getElem? (i := 24) rfl)) (laid_sg_2 l Z a0 hw) (by decide) dfl_sg_2 (by decide) (by decide) ?_
  intro a1
  show Wp none l Z "com/example/dalles/dalles/schema/Fill" "fromSequence" prog_24_method_2_code 1 (some (.object "com/example/dalles/dalles/schema/Fill")) ({ frames := 2, cells := 1, slots := 2, locals := 40 } : Room) ((a1, oI "com/example/dalles/dalles/schema/Fill" sg_2 [(.null), (.int (0 : Int32))]) :: (q, oI "com/example/dalles/dalles/schema/Sequence" sg_1 [(.ref x), (.ref y)]) :: F) 1 2 3 #[.val (.ref q)] [(.ref a1)] (Q_c_from q x y F)
  refine wp_dup D_prog_24_m2_3 rfl ?_
  refine wp_aload_n D_prog_24_m2_4 rfl rfl ?_
  refine wp_callS (c_rnn l Z a0 hw q ((a1, oI "com/example/dalles/dalles/schema/Fill" sg_2 [(.null), (.int (0 : Int32))]) :: (q, oI "com/example/dalles/dalles/schema/Sequence" sg_1 [(.ref x), (.ref y)]) :: F)) D_prog_24_m2_5 (hw _ (List.mem_of_getElem? (i := 28) rfl)) (hw _ (List.mem_of_getElem? (i := 29) rfl)) (hw _ (List.mem_of_getElem? (i := 30) rfl)) (hw _ (List.mem_of_getElem? (i := 31) rfl)) (by decide) pd_1 rfl rfl rfl (Nat.le_of_ble_eq_true rfl) (Nat.le_of_ble_eq_true rfl) (Nat.le_of_ble_eq_true rfl) (Nat.le_of_ble_eq_true rfl) ?_
  rintro _ _ ⟨rfl, rfl⟩
  show Wp none l Z "com/example/dalles/dalles/schema/Fill" "fromSequence" prog_24_method_2_code 1 (some (.object "com/example/dalles/dalles/schema/Fill")) ({ frames := 2, cells := 1, slots := 2, locals := 40 } : Room) ((a1, oI "com/example/dalles/dalles/schema/Fill" sg_2 [(.null), (.int (0 : Int32))]) :: (q, oI "com/example/dalles/dalles/schema/Sequence" sg_1 [(.ref x), (.ref y)]) :: F) 1 2 8 #[.val (.ref q)] [(.ref q), (.ref a1), (.ref a1)] (Q_c_from q x y F)
  refine wp_cast D_prog_24_m2_8 (hw _ (List.mem_of_getElem? (i := 32) rfl)) (fun h P => Ins.self (exa_new (i := 1) rfl h P)) ?_
  refine wp_iconst 0 D_prog_24_m2_11 (by decide) ?_
  refine wp_init (c_fill l Z a0 hw a1 q ((q, oI "com/example/dalles/dalles/schema/Sequence" sg_1 [(.ref x), (.ref y)]) :: F)) D_prog_24_m2_12 rfl (hw _ (List.mem_of_getElem? (i := 34) rfl)) (hw _ (List.mem_of_getElem? (i := 35) rfl)) (hw _ (List.mem_of_getElem? (i := 24) rfl)) (hw _ (List.mem_of_getElem? (i := 36) rfl)) (by decide) pd_2 rfl rfl rfl (Nat.le_of_ble_eq_true rfl) (Nat.le_of_ble_eq_true rfl) (Nat.le_of_ble_eq_true rfl) (Nat.le_of_ble_eq_true rfl) ?_
  rintro _ _ ⟨rfl, rfl⟩
  show Wp none l Z "com/example/dalles/dalles/schema/Fill" "fromSequence" prog_24_method_2_code 1 (some (.object "com/example/dalles/dalles/schema/Fill")) ({ frames := 2, cells := 1, slots := 2, locals := 40 } : Room) ((a1, oI "com/example/dalles/dalles/schema/Fill" sg_2 [(.ref q), (.int (0 : Int32))]) :: (q, oI "com/example/dalles/dalles/schema/Sequence" sg_1 [(.ref x), (.ref y)]) :: F) 1 2 15 #[.val (.ref q)] [(.ref a1)] (Q_c_from q x y F)
  refine wp_areturn D_prog_24_m2_15 rfl rfl rfl rfl (by decide) (by decide) ?_
  exact ⟨_, rfl, rfl⟩
theorem pn_5 : plainFor (⟨"java/util/Optional", "empty", "()Ljava/util/Optional;"⟩ : MethodName) = true := by first | exact plainFor_of_name (by first | (simp [plainName, overriddenIn]; done) | decide +kernel) | decide +kernel
theorem D_jdk_32_m1_0 : Dc jdk_32_method_1_code 0 (.getstatic 1) 3 3 := ⟨by decide +kernel, rfl⟩
theorem D_jdk_32_m1_3 : Dc jdk_32_method_1_code 3 (.astore_n 0) 1 4 := ⟨by decide +kernel, rfl⟩
theorem D_jdk_32_m1_4 : Dc jdk_32_method_1_code 4 (.aload_n 0) 1 5 := ⟨by decide +kernel, rfl⟩
theorem D_jdk_32_m1_5 : Dc jdk_32_method_1_code 5 (.areturn) 1 6 := ⟨by decide +kernel, rfl⟩
def Q_c_emp (aE : Addr) (H : OH) : Option Value → OH → Prop := fun v H' => v = some (.ref aE) ∧ H' = H
set_option maxRecDepth 65536 in
set_option maxHeartbeats 40000000 in
theorem c_emp (l : Launch) (Z : State) (a0 : Array Value) (hw : ∀ d ∈ tables_1, d.before a0 Z = true) (aE : Addr) (H : OH) (S_E : Sta Z Z.heap "java/util/Optional" "EMPTY" "Ljava/util/Optional;" (.ref aE)):
    Met l Z (⟨"java/util/Optional", "empty", "()Ljava/util/Optional;"⟩ : MethodName) jdk_32_method_1_code 1 (some (.object "java/util/Optional")) ({ frames := 0, cells := 0, slots := 0, locals := 0 } : Room) [] H (Q_c_emp aE H) := by
  refine Met.of_wp (Ls := #[.unset]) pn_5 (fun m => by first | rfl | (simp [entryFrame, mkF, argsToLocals, Value.category]; done)) ?_
  show Wp none l Z "java/util/Optional" "empty" jdk_32_method_1_code 1 (some (.object "java/util/Optional")) ({ frames := 0, cells := 0, slots := 0, locals := 0 } : Room) H 0 0 0 #[.unset] [] (Q_c_emp aE H)
  refine wp_getstatic D_jdk_32_m1_0 (hw _ (List.mem_of_getElem? (i := 59) rfl)) S_E ?_
  refine wp_astore_n #[.val (.ref aE)] D_jdk_32_m1_3 rfl rfl ?_
  refine wp_aload_n D_jdk_32_m1_4 rfl rfl ?_
  refine wp_areturn D_jdk_32_m1_5 rfl rfl rfl rfl (by decide) (by decide) ?_
  exact ⟨rfl, rfl⟩
theorem pd_3 : parseMethodDescriptor "()Ljava/util/Optional;" = some ⟨[], (some (.object "java/util/Optional"))⟩ := by decide +kernel
theorem pd_4 : parseMethodDescriptor "(Lcom/example/dalles/dalles/schema/Fill;)V" = some ⟨[(.object "com/example/dalles/dalles/schema/Fill")], none⟩ := by decide +kernel
theorem pd_5 : parseMethodDescriptor "(Lcom/example/dalles/dalles/schema/Sequence;)Lcom/example/dalles/dalles/schema/Fill;" = some ⟨[(.object "com/example/dalles/dalles/schema/Sequence")], (some (.object "com/example/dalles/dalles/schema/Fill"))⟩ := by decide +kernel
theorem pn_6 : plainFor (⟨"com/example/dalles/dalles/schema/PostgreSqlColumn", "<init>", "(Ljava/lang/String;Ljava/lang/String;I)V"⟩ : MethodName) = true := by first | exact plainFor_of_name (by first | (simp [plainName, overriddenIn]; done) | decide +kernel) | decide +kernel
theorem D_prog_46_m1_0 : Dc prog_46_method_1_code 0 (.aload_n 0) 1 1 := ⟨by decide +kernel, rfl⟩
theorem D_prog_46_m1_1 : Dc prog_46_method_1_code 1 (.invokespecial 1) 3 4 := ⟨by decide +kernel, rfl⟩
theorem D_prog_46_m1_4 : Dc prog_46_method_1_code 4 (.aload_n 0) 1 5 := ⟨by decide +kernel, rfl⟩
theorem D_prog_46_m1_5 : Dc prog_46_method_1_code 5 (.getstatic 7) 3 8 := ⟨by decide +kernel, rfl⟩
theorem D_prog_46_m1_8 : Dc prog_46_method_1_code 8 (.putfield 13) 3 11 := ⟨by decide +kernel, rfl⟩
theorem D_prog_46_m1_11 : Dc prog_46_method_1_code 11 (.aload_n 0) 1 12 := ⟨by decide +kernel, rfl⟩
theorem D_prog_46_m1_12 : Dc prog_46_method_1_code 12 (.invokestatic 18) 3 15 := ⟨by decide +kernel, rfl⟩
theorem D_prog_46_m1_15 : Dc prog_46_method_1_code 15 (.putfield 24) 3 18 := ⟨by decide +kernel, rfl⟩
theorem D_prog_46_m1_18 : Dc prog_46_method_1_code 18 (.aload_n 0) 1 19 := ⟨by decide +kernel, rfl⟩
theorem D_prog_46_m1_19 : Dc prog_46_method_1_code 19 (.aload_n 1) 1 20 := ⟨by decide +kernel, rfl⟩
theorem D_prog_46_m1_20 : Dc prog_46_method_1_code 20 (.putfield 28) 3 23 := ⟨by decide +kernel, rfl⟩
theorem D_prog_46_m1_23 : Dc prog_46_method_1_code 23 (.aload_n 0) 1 24 := ⟨by decide +kernel, rfl⟩
theorem D_prog_46_m1_24 : Dc prog_46_method_1_code 24 (.aload_n 2) 1 25 := ⟨by decide +kernel, rfl⟩
theorem D_prog_46_m1_25 : Dc prog_46_method_1_code 25 (.putfield 32) 3 28 := ⟨by decide +kernel, rfl⟩
theorem D_prog_46_m1_28 : Dc prog_46_method_1_code 28 (.aload_n 0) 1 29 := ⟨by decide +kernel, rfl⟩
theorem D_prog_46_m1_29 : Dc prog_46_method_1_code 29 (.iload_n 3) 1 30 := ⟨by decide +kernel, rfl⟩
theorem D_prog_46_m1_30 : Dc prog_46_method_1_code 30 (.putfield 35) 3 33 := ⟨by decide +kernel, rfl⟩
theorem D_prog_46_m1_33 : Dc prog_46_method_1_code 33 (.return_) 1 34 := ⟨by decide +kernel, rfl⟩
def Q_c_col (o x y : Addr) (n : Int32) (aN aE : Addr) (F : OH) : Option Value → OH → Prop := fun v H' => v = none ∧ H' = (o, oI "com/example/dalles/dalles/schema/PostgreSqlColumn" sg_3 [(.ref aN), (.ref aE), (.ref x), (.ref y), (.int n), (.int (0 : Int32)), (.null)]) :: F
set_option maxRecDepth 65536 in
set_option maxHeartbeats 40000000 in
theorem c_col (l : Launch) (Z : State) (a0 : Array Value) (hw : ∀ d ∈ tables_1, d.before a0 Z = true) (o x y : Addr) (n : Int32) (aN aE : Addr) (F : OH)  (S_N : Sta Z Z.heap "com/example/dalles/dalles/schema/Fill" "NONE" "Lcom/example/dalles/dalles/schema/Fill;" (.ref aN)) (S_E : Sta Z Z.heap "java/util/Optional" "EMPTY" "Ljava/util/Optional;" (.ref aE)):
    Met l Z (⟨"com/example/dalles/dalles/schema/PostgreSqlColumn", "<init>", "(Ljava/lang/String;Ljava/lang/String;I)V"⟩ : MethodName) prog_46_method_1_code 4 none ({ frames := 1, cells := 0, slots := 0, locals := 14 } : Room) [(.ref o), (.ref x), (.ref y), (.int n)] ((o, oI "com/example/dalles/dalles/schema/PostgreSqlColumn" sg_3 [(.null), (.null), (.null), (.null), (.int (0 : Int32)), (.int (0 : Int32)), (.null)]) :: F) (Q_c_col o x y n aN aE F) := by
  refine Met.of_wp (Ls := #[.val (.ref o), .val (.ref x), .val (.ref y), .val (.int n)]) pn_6 (fun m => by first | rfl | (simp [entryFrame, mkF, argsToLocals, Value.category]; done)) ?_
  show Wp none l Z "com/example/dalles/dalles/schema/PostgreSqlColumn" "<init>" prog_46_method_1_code 4 none ({ frames := 1, cells := 0, slots := 0, locals := 14 } : Room) ((o, oI "com/example/dalles/dalles/schema/PostgreSqlColumn" sg_3 [(.null), (.null), (.null), (.null), (.int (0 : Int32)), (.int (0 : Int32)), (.null)]) :: F) 0 0 0 #[.val (.ref o), .val (.ref x), .val (.ref y), .val (.int n)] [] (Q_c_col o x y n aN aE F)
  refine wp_aload_n D_prog_46_m1_0 rfl rfl ?_
  refine wp_initO D_prog_46_m1_1 (hw _ (List.mem_of_getElem? (i := 50) rfl)) (hw _ (List.mem_of_getElem? (i := 16) rfl)) (hw _ (List.mem_of_getElem? (i := 17) rfl)) rfl (Nat.le_of_ble_eq_true rfl) (Nat.le_of_ble_eq_true rfl) ?_
  refine wp_aload_n D_prog_46_m1_4 rfl rfl ?_
  refine wp_getstatic D_prog_46_m1_5 (hw _ (List.mem_of_getElem? (i := 51) rfl)) S_N ?_
  refine wp_putfield (i := 0) (fi := 0) (ty := (.object "com/example/dalles/dalles/schema/Fill")) D_prog_46_m1_8 (hw _ (List.mem_of_getElem? (i := 53) rfl)) rfl rfl rfl (Or.inl (hw _ (List.mem_of_getElem? (i := 54) rfl))) (hw _ (List.mem_of_getElem? (i := 43) rfl)) (by decide) rfl rfl ?_
  show Wp none l Z "com/example/dalles/dalles/schema/PostgreSqlColumn" "<init>" prog_46_method_1_code 4 none ({ frames := 1, cells := 0, slots := 0, locals := 14 } : Room) ((o, oI "com/example/dalles/dalles/schema/PostgreSqlColumn" sg_3 [(.ref aN), (.null), (.null), (.null), (.int (0 : Int32)), (.int (0 : Int32)), (.null)]) :: F) 0 0 11 #[.val (.ref o), .val (.ref x), .val (.ref y), .val (.int n)] [] (Q_c_col o x y n aN aE F)
  refine wp_aload_n D_prog_46_m1_11 rfl rfl ?_
  refine wp_callS (c_emp l Z a0 hw aE ((o, oI "com/example/dalles/dalles/schema/PostgreSqlColumn" sg_3 [(.ref aN), (.null), (.null), (.null), (.int (0 : Int32)), (.int (0 : Int32)), (.null)]) :: F) S_E) D_prog_46_m1_12 (hw _ (List.mem_of_getElem? (i := 55) rfl)) (hw _ (List.mem_of_getElem? (i := 56) rfl)) (hw _ (List.mem_of_getElem? (i := 57) rfl)) (hw _ (List.mem_of_getElem? (i := 58) rfl)) (by decide) pd_3 rfl rfl rfl (Nat.le_of_ble_eq_true rfl) (Nat.le_of_ble_eq_true rfl) (Nat.le_of_ble_eq_true rfl) (Nat.le_of_ble_eq_true rfl) ?_
  rintro _ _ ⟨rfl, rfl⟩
  show Wp none l Z "com/example/dalles/dalles/schema/PostgreSqlColumn" "<init>" prog_46_method_1_code 4 none ({ frames := 1, cells := 0, slots := 0, locals := 14 } : Room) ((o, oI "com/example/dalles/dalles/schema/PostgreSqlColumn" sg_3 [(.ref aN), (.null), (.null), (.null), (.int (0 : Int32)), (.int (0 : Int32)), (.null)]) :: F) 0 0 15 #[.val (.ref o), .val (.ref x), .val (.ref y), .val (.int n)] [(.ref aE), (.ref o)] (Q_c_col o x y n aN aE F)
  refine wp_putfield (i := 0) (fi := 1) (ty := (.object "java/util/Optional")) D_prog_46_m1_15 (hw _ (List.mem_of_getElem? (i := 60) rfl)) rfl rfl rfl (Or.inl (hw _ (List.mem_of_getElem? (i := 61) rfl))) (hw _ (List.mem_of_getElem? (i := 43) rfl)) (by decide) rfl rfl ?_
  show Wp none l Z "com/example/dalles/dalles/schema/PostgreSqlColumn" "<init>" prog_46_method_1_code 4 none ({ frames := 1, cells := 0, slots := 0, locals := 14 } : Room) ((o, oI "com/example/dalles/dalles/schema/PostgreSqlColumn" sg_3 [(.ref aN), (.ref aE), (.null), (.null), (.int (0 : Int32)), (.int (0 : Int32)), (.null)]) :: F) 0 0 18 #[.val (.ref o), .val (.ref x), .val (.ref y), .val (.int n)] [] (Q_c_col o x y n aN aE F)
  refine wp_aload_n D_prog_46_m1_18 rfl rfl ?_
  refine wp_aload_n D_prog_46_m1_19 rfl rfl ?_
  refine wp_putfield (i := 0) (fi := 2) (ty := (.object "java/lang/String")) D_prog_46_m1_20 (hw _ (List.mem_of_getElem? (i := 62) rfl)) rfl rfl rfl (Or.inr ⟨(hw _ (List.mem_of_getElem? (i := 63) rfl)), rfl, rfl⟩) (hw _ (List.mem_of_getElem? (i := 43) rfl)) (by decide) rfl rfl ?_
  show Wp none l Z "com/example/dalles/dalles/schema/PostgreSqlColumn" "<init>" prog_46_method_1_code 4 none ({ frames := 1, cells := 0, slots := 0, locals := 14 } : Room) ((o, oI "com/example/dalles/dalles/schema/PostgreSqlColumn" sg_3 [(.ref aN), (.ref aE), (.ref x), (.null), (.int (0 : Int32)), (.int (0 : Int32)), (.null)]) :: F) 0 0 23 #[.val (.ref o), .val (.ref x), .val (.ref y), .val (.int n)] [] (Q_c_col o x y n aN aE F)
  refine wp_aload_n D_prog_46_m1_23 rfl rfl ?_
  refine wp_aload_n D_prog_46_m1_24 rfl rfl ?_
  refine wp_putfield (i := 0) (fi := 3) (ty := (.object "java/lang/String")) D_prog_46_m1_25 (hw _ (List.mem_of_getElem? (i := 64) rfl)) rfl rfl rfl (Or.inr ⟨(hw _ (List.mem_of_getElem? (i := 65) rfl)), rfl, rfl⟩) (hw _ (List.mem_of_getElem? (i := 43) rfl)) (by decide) rfl rfl ?_
  show Wp none l Z "com/example/dalles/dalles/schema/PostgreSqlColumn" "<init>" prog_46_method_1_code 4 none ({ frames := 1, cells := 0, slots := 0, locals := 14 } : Room) ((o, oI "com/example/dalles/dalles/schema/PostgreSqlColumn" sg_3 [(.ref aN), (.ref aE), (.ref x), (.ref y), (.int (0 : Int32)), (.int (0 : Int32)), (.null)]) :: F) 0 0 28 #[.val (.ref o), .val (.ref x), .val (.ref y), .val (.int n)] [] (Q_c_col o x y n aN aE F)
  refine wp_aload_n D_prog_46_m1_28 rfl rfl ?_
  refine wp_iload_n D_prog_46_m1_29 rfl ?_
  refine wp_putfield (i := 0) (fi := 4) (ty := .int) D_prog_46_m1_30 (hw _ (List.mem_of_getElem? (i := 66) rfl)) rfl rfl rfl (Or.inr ⟨(hw _ (List.mem_of_getElem? (i := 67) rfl)), rfl, rfl⟩) (hw _ (List.mem_of_getElem? (i := 43) rfl)) (by decide) rfl rfl ?_
  show Wp none l Z "com/example/dalles/dalles/schema/PostgreSqlColumn" "<init>" prog_46_method_1_code 4 none ({ frames := 1, cells := 0, slots := 0, locals := 14 } : Room) ((o, oI "com/example/dalles/dalles/schema/PostgreSqlColumn" sg_3 [(.ref aN), (.ref aE), (.ref x), (.ref y), (.int n), (.int (0 : Int32)), (.null)]) :: F) 0 0 33 #[.val (.ref o), .val (.ref x), .val (.ref y), .val (.int n)] [] (Q_c_col o x y n aN aE F)
  refine wp_return D_prog_46_m1_33 rfl (by decide) (by decide) ?_
  exact ⟨rfl, rfl⟩
theorem pn_7 : plainFor (⟨"com/example/dalles/dalles/schema/PostgreSqlColumn", "setDefault", "(Lcom/example/dalles/dalles/schema/Fill;)V"⟩ : MethodName) = true := by first | exact plainFor_of_name (by first | (simp [plainName, overriddenIn]; done) | decide +kernel) | decide +kernel
theorem D_prog_46_m4_0 : Dc prog_46_method_4_code 0 (.aload_n 0) 1 1 := ⟨by decide +kernel, rfl⟩
theorem D_prog_46_m4_1 : Dc prog_46_method_4_code 1 (.iconst 1) 1 2 := ⟨by decide +kernel, rfl⟩
theorem D_prog_46_m4_2 : Dc prog_46_method_4_code 2 (.putfield 39) 3 5 := ⟨by decide +kernel, rfl⟩
theorem D_prog_46_m4_5 : Dc prog_46_method_4_code 5 (.aload_n 0) 1 6 := ⟨by decide +kernel, rfl⟩
theorem D_prog_46_m4_6 : Dc prog_46_method_4_code 6 (.aload_n 1) 1 7 := ⟨by decide +kernel, rfl⟩
theorem D_prog_46_m4_7 : Dc prog_46_method_4_code 7 (.putfield 13) 3 10 := ⟨by decide +kernel, rfl⟩
theorem D_prog_46_m4_10 : Dc prog_46_method_4_code 10 (.return_) 1 11 := ⟨by decide +kernel, rfl⟩
def Q_c_set (z : Addr) (o : Addr) (d x y : Addr) (n g : Int32) (i : Value) (aE : Addr) (F : OH) : Option Value → OH → Prop := fun v H' => v = none ∧ H' = (o, oI "com/example/dalles/dalles/schema/PostgreSqlColumn" sg_3 [(.ref z), (.ref aE), (.ref x), (.ref y), (.int n), (.int (1 : Int32)), i]) :: F
set_option maxRecDepth 65536 in
set_option maxHeartbeats 40000000 in
theorem c_set (l : Launch) (Z : State) (a0 : Array Value) (hw : ∀ d ∈ tables_1, d.before a0 Z = true) (z : Addr) (o : Addr) (d x y : Addr) (n g : Int32) (i : Value) (aE : Addr) (F : OH)  :
    Met l Z (⟨"com/example/dalles/dalles/schema/PostgreSqlColumn", "setDefault", "(Lcom/example/dalles/dalles/schema/Fill;)V"⟩ : MethodName) prog_46_method_4_code 2 none ({ frames := 0, cells := 0, slots := 0, locals := 0 } : Room) [(.ref o), (.ref z)] ((o, oI "com/example/dalles/dalles/schema/PostgreSqlColumn" sg_3 [(.ref d), (.ref aE), (.ref x), (.ref y), (.int n), (.int g), i]) :: F) (Q_c_set z o d x y n g i aE F) := by
  refine Met.of_wp (Ls := #[.val (.ref o), .val (.ref z)]) pn_7 (fun m => by first | rfl | (simp [entryFrame, mkF, argsToLocals, Value.category]; done)) ?_
  show Wp none l Z "com/example/dalles/dalles/schema/PostgreSqlColumn" "setDefault" prog_46_method_4_code 2 none ({ frames := 0, cells := 0, slots := 0, locals := 0 } : Room) ((o, oI "com/example/dalles/dalles/schema/PostgreSqlColumn" sg_3 [(.ref d), (.ref aE), (.ref x), (.ref y), (.int n), (.int g), i]) :: F) 0 0 0 #[.val (.ref o), .val (.ref z)] [] (Q_c_set z o d x y n g i aE F)
  refine wp_aload_n D_prog_46_m4_0 rfl rfl ?_
  refine wp_iconst 1 D_prog_46_m4_1 (by decide) ?_
  refine wp_putfield (i := 0) (fi := 5) (ty := .boolean) D_prog_46_m4_2 (hw _ (List.mem_of_getElem? (i := 74) rfl)) rfl rfl rfl (Or.inl (hw _ (List.mem_of_getElem? (i := 75) rfl))) (hw _ (List.mem_of_getElem? (i := 43) rfl)) (by decide) rfl rfl ?_
  show Wp none l Z "com/example/dalles/dalles/schema/PostgreSqlColumn" "setDefault" prog_46_method_4_code 2 none ({ frames := 0, cells := 0, slots := 0, locals := 0 } : Room) ((o, oI "com/example/dalles/dalles/schema/PostgreSqlColumn" sg_3 [(.ref d), (.ref aE), (.ref x), (.ref y), (.int n), (.int (1 : Int32)), i]) :: F) 0 0 5 #[.val (.ref o), .val (.ref z)] [] (Q_c_set z o d x y n g i aE F)
  refine wp_aload_n D_prog_46_m4_5 rfl rfl ?_
  refine wp_aload_n D_prog_46_m4_6 rfl rfl ?_
  refine wp_putfield (i := 0) (fi := 0) (ty := (.object "com/example/dalles/dalles/schema/Fill")) D_prog_46_m4_7 (hw _ (List.mem_of_getElem? (i := 53) rfl)) rfl rfl rfl (Or.inl (hw _ (List.mem_of_getElem? (i := 54) rfl))) (hw _ (List.mem_of_getElem? (i := 43) rfl)) (by decide) rfl rfl ?_
  show Wp none l Z "com/example/dalles/dalles/schema/PostgreSqlColumn" "setDefault" prog_46_method_4_code 2 none ({ frames := 0, cells := 0, slots := 0, locals := 0 } : Room) ((o, oI "com/example/dalles/dalles/schema/PostgreSqlColumn" sg_3 [(.ref z), (.ref aE), (.ref x), (.ref y), (.int n), (.int (1 : Int32)), i]) :: F) 0 0 10 #[.val (.ref o), .val (.ref z)] [] (Q_c_set z o d x y n g i aE F)
  refine wp_return D_prog_46_m4_10 rfl (by decide) (by decide) ?_
  exact ⟨rfl, rfl⟩
theorem pn_8 : plainFor (⟨"com/example/dalles/dalles/schema/PostgreSqlColumn", "makeIdentity", "(Lcom/example/dalles/dalles/schema/Sequence;)V"⟩ : MethodName) = true := by first | exact plainFor_of_name (by first | (simp [plainName, overriddenIn]; done) | decide +kernel) | decide +kernel
theorem D_prog_46_m5_0 : Dc prog_46_method_5_code 0 (.aload_n 0) 1 1 := ⟨by decide +kernel, rfl⟩
theorem D_prog_46_m5_1 : Dc prog_46_method_5_code 1 (.aload_n 1) 1 2 := ⟨by decide +kernel, rfl⟩
theorem D_prog_46_m5_2 : Dc prog_46_method_5_code 2 (.putfield 43) 3 5 := ⟨by decide +kernel, rfl⟩
theorem D_prog_46_m5_5 : Dc prog_46_method_5_code 5 (.return_) 1 6 := ⟨by decide +kernel, rfl⟩
def Q_c_mk (z : Addr) (o : Addr) (d x y : Addr) (n g : Int32) (i : Value) (aE : Addr) (F : OH) : Option Value → OH → Prop := fun v H' => v = none ∧ H' = (o, oI "com/example/dalles/dalles/schema/PostgreSqlColumn" sg_3 [(.ref d), (.ref aE), (.ref x), (.ref y), (.int n), (.int g), (.ref z)]) :: F
set_option maxRecDepth 65536 in
set_option maxHeartbeats 40000000 in
theorem c_mk (l : Launch) (Z : State) (a0 : Array Value) (hw : ∀ d ∈ tables_1, d.before a0 Z = true) (z : Addr) (o : Addr) (d x y : Addr) (n g : Int32) (i : Value) (aE : Addr) (F : OH)  :
    Met l Z (⟨"com/example/dalles/dalles/schema/PostgreSqlColumn", "makeIdentity", "(Lcom/example/dalles/dalles/schema/Sequence;)V"⟩ : MethodName) prog_46_method_5_code 2 none ({ frames := 0, cells := 0, slots := 0, locals := 0 } : Room) [(.ref o), (.ref z)] ((o, oI "com/example/dalles/dalles/schema/PostgreSqlColumn" sg_3 [(.ref d), (.ref aE), (.ref x), (.ref y), (.int n), (.int g), i]) :: F) (Q_c_mk z o d x y n g i aE F) := by
  refine Met.of_wp (Ls := #[.val (.ref o), .val (.ref z)]) pn_8 (fun m => by first | rfl | (simp [entryFrame, mkF, argsToLocals, Value.category]; done)) ?_
  show Wp none l Z "com/example/dalles/dalles/schema/PostgreSqlColumn" "makeIdentity" prog_46_method_5_code 2 none ({ frames := 0, cells := 0, slots := 0, locals := 0 } : Room) ((o, oI "com/example/dalles/dalles/schema/PostgreSqlColumn" sg_3 [(.ref d), (.ref aE), (.ref x), (.ref y), (.int n), (.int g), i]) :: F) 0 0 0 #[.val (.ref o), .val (.ref z)] [] (Q_c_mk z o d x y n g i aE F)
  refine wp_aload_n D_prog_46_m5_0 rfl rfl ?_
  refine wp_aload_n D_prog_46_m5_1 rfl rfl ?_
  refine wp_putfield (i := 0) (fi := 6) (ty := (.object "com/example/dalles/dalles/schema/Sequence")) D_prog_46_m5_2 (hw _ (List.mem_of_getElem? (i := 81) rfl)) rfl rfl rfl (Or.inl (hw _ (List.mem_of_getElem? (i := 82) rfl))) (hw _ (List.mem_of_getElem? (i := 43) rfl)) (by decide) rfl rfl ?_
  show Wp none l Z "com/example/dalles/dalles/schema/PostgreSqlColumn" "makeIdentity" prog_46_method_5_code 2 none ({ frames := 0, cells := 0, slots := 0, locals := 0 } : Room) ((o, oI "com/example/dalles/dalles/schema/PostgreSqlColumn" sg_3 [(.ref d), (.ref aE), (.ref x), (.ref y), (.int n), (.int g), (.ref z)]) :: F) 0 0 5 #[.val (.ref o), .val (.ref z)] [] (Q_c_mk z o d x y n g i aE F)
  refine wp_return D_prog_46_m5_5 rfl (by decide) (by decide) ?_
  exact ⟨rfl, rfl⟩
theorem pn_9 : plainFor (⟨"com/example/dalles/dalles/schema/PostgreSqlColumn", "fill", "()Lcom/example/dalles/dalles/schema/Fill;"⟩ : MethodName) = true := by first | exact plainFor_of_name (by first | (simp [plainName, overriddenIn]; done) | decide +kernel) | decide +kernel
theorem D_prog_46_m8_0 : Dc prog_46_method_8_code 0 (.aload_n 0) 1 1 := ⟨by decide +kernel, rfl⟩
theorem D_prog_46_m8_1 : Dc prog_46_method_8_code 1 (.getfield 43) 3 4 := ⟨by decide +kernel, rfl⟩
theorem D_prog_46_m8_4 : Dc prog_46_method_8_code 4 (.ifnonnull 10) 3 7 := ⟨by decide +kernel, rfl⟩
theorem D_prog_46_m8_7 : Dc prog_46_method_8_code 7 (.aload_n 0) 1 8 := ⟨by decide +kernel, rfl⟩
theorem D_prog_46_m8_8 : Dc prog_46_method_8_code 8 (.getfield 13) 3 11 := ⟨by decide +kernel, rfl⟩
theorem D_prog_46_m8_11 : Dc prog_46_method_8_code 11 (.goto 10) 3 14 := ⟨by decide +kernel, rfl⟩
theorem D_prog_46_m8_14 : Dc prog_46_method_8_code 14 (.aload_n 0) 1 15 := ⟨by decide +kernel, rfl⟩
theorem D_prog_46_m8_15 : Dc prog_46_method_8_code 15 (.getfield 43) 3 18 := ⟨by decide +kernel, rfl⟩
theorem D_prog_46_m8_18 : Dc prog_46_method_8_code 18 (.invokestatic 57) 3 21 := ⟨by decide +kernel, rfl⟩
theorem D_prog_46_m8_21 : Dc prog_46_method_8_code 21 (.areturn) 1 22 := ⟨by decide +kernel, rfl⟩
def Q_c_get (o : Addr) (d x y : Addr) (n g : Int32) (aE : Addr) (F : OH) : Option Value → OH → Prop := fun v H' => v = some (.ref d) ∧ H' = (o, oI "com/example/dalles/dalles/schema/PostgreSqlColumn" sg_3 [(.ref d), (.ref aE), (.ref x), (.ref y), (.int n), (.int g), (.null)]) :: F
set_option maxRecDepth 65536 in
set_option maxHeartbeats 40000000 in
theorem c_get (l : Launch) (Z : State) (a0 : Array Value) (hw : ∀ d ∈ tables_1, d.before a0 Z = true) (o : Addr) (d x y : Addr) (n g : Int32) (aE : Addr) (F : OH)  :
    Met l Z (⟨"com/example/dalles/dalles/schema/PostgreSqlColumn", "fill", "()Lcom/example/dalles/dalles/schema/Fill;"⟩ : MethodName) prog_46_method_8_code 1 (some (.object "com/example/dalles/dalles/schema/Fill")) ({ frames := 0, cells := 0, slots := 0, locals := 0 } : Room) [(.ref o)] ((o, oI "com/example/dalles/dalles/schema/PostgreSqlColumn" sg_3 [(.ref d), (.ref aE), (.ref x), (.ref y), (.int n), (.int g), (.null)]) :: F) (Q_c_get o d x y n g aE F) := by
  refine Met.of_wp (Ls := #[.val (.ref o)]) pn_9 (fun m => by first | rfl | (simp [entryFrame, mkF, argsToLocals, Value.category]; done)) ?_
  show Wp none l Z "com/example/dalles/dalles/schema/PostgreSqlColumn" "fill" prog_46_method_8_code 1 (some (.object "com/example/dalles/dalles/schema/Fill")) ({ frames := 0, cells := 0, slots := 0, locals := 0 } : Room) ((o, oI "com/example/dalles/dalles/schema/PostgreSqlColumn" sg_3 [(.ref d), (.ref aE), (.ref x), (.ref y), (.int n), (.int g), (.null)]) :: F) 0 0 0 #[.val (.ref o)] [] (Q_c_get o d x y n g aE F)
  refine wp_aload_n D_prog_46_m8_0 rfl rfl ?_
  refine wp_getfield D_prog_46_m8_1 (hw _ (List.mem_of_getElem? (i := 81) rfl)) (fld_new (i := 0) (fi := 6) rfl rfl rfl) ?_
  refine wp_ifnonnull_n D_prog_46_m8_4 ?_
  refine wp_aload_n D_prog_46_m8_7 rfl rfl ?_
  refine wp_getfield D_prog_46_m8_8 (hw _ (List.mem_of_getElem? (i := 53) rfl)) (fld_new (i := 0) (fi := 0) rfl rfl rfl) ?_
  refine wp_goto D_prog_46_m8_11 (pc'' := 21) ⟨by decide, by decide⟩ ?_
  refine wp_areturn D_prog_46_m8_21 rfl rfl rfl rfl (by decide) (by decide) ?_
  exact ⟨rfl, rfl⟩
def fh (h g : Int32) : Int32 := if h = 0 then (if g = 0 then h else 1) else h
def fd (h g : Int32) (d z : Addr) : Addr := if h = 0 then (if g = 0 then d else z) else d
def pk (aN aR : Addr) (k : Int32) (f : Addr) : Addr := if k = 1 then aN else if k = 2 then aR else f
theorem pn_10 : plainFor (⟨"com/example/dalles/dalles/schema/PostgreSqlColumn", "inheritDefault", "(Lcom/example/dalles/dalles/schema/PostgreSqlColumn;)V"⟩ : MethodName) = true := by first | exact plainFor_of_name (by first | (simp [plainName, overriddenIn]; done) | decide +kernel) | decide +kernel
theorem D_prog_46_m10_0 : Dc prog_46_method_10_code 0 (.aload_n 0) 1 1 := ⟨by decide +kernel, rfl⟩
theorem D_prog_46_m10_1 : Dc prog_46_method_10_code 1 (.getfield 39) 3 4 := ⟨by decide +kernel, rfl⟩
theorem D_prog_46_m10_4 : Dc prog_46_method_10_code 4 (.ifCond .ne 18) 3 7 := ⟨by decide +kernel, rfl⟩
theorem D_prog_46_m10_7 : Dc prog_46_method_10_code 7 (.aload_n 1) 1 8 := ⟨by decide +kernel, rfl⟩
theorem D_prog_46_m10_8 : Dc prog_46_method_10_code 8 (.getfield 39) 3 11 := ⟨by decide +kernel, rfl⟩
theorem D_prog_46_m10_11 : Dc prog_46_method_10_code 11 (.ifCond .eq 11) 3 14 := ⟨by decide +kernel, rfl⟩
theorem D_prog_46_m10_14 : Dc prog_46_method_10_code 14 (.aload_n 0) 1 15 := ⟨by decide +kernel, rfl⟩
theorem D_prog_46_m10_15 : Dc prog_46_method_10_code 15 (.aload_n 1) 1 16 := ⟨by decide +kernel, rfl⟩
theorem D_prog_46_m10_16 : Dc prog_46_method_10_code 16 (.getfield 13) 3 19 := ⟨by decide +kernel, rfl⟩
theorem D_prog_46_m10_19 : Dc prog_46_method_10_code 19 (.invokevirtual 68) 3 22 := ⟨by decide +kernel, rfl⟩
theorem D_prog_46_m10_22 : Dc prog_46_method_10_code 22 (.return_) 1 23 := ⟨by decide +kernel, rfl⟩
def Q_c_inh (o1 o2 : Addr) (d1 x1 y1 : Addr) (n1 g1 : Int32) (i1 : Value) (d2 x2 y2 : Addr) (n2 g2 : Int32) (i2 : Value) (aE : Addr) (F : OH) : Option Value → OH → Prop := fun v H' => v = none ∧ H' = (o1, oI "com/example/dalles/dalles/schema/PostgreSqlColumn" sg_3 [(.ref (fd g1 g2 d1 d2)), (.ref aE), (.ref x1), (.ref y1), (.int n1), (.int (fh g1 g2)), i1]) :: (o2, oI "com/example/dalles/dalles/schema/PostgreSqlColumn" sg_3 [(.ref d2), (.ref aE), (.ref x2), (.ref y2), (.int n2), (.int g2), i2]) :: F
set_option maxRecDepth 65536 in
set_option maxHeartbeats 40000000 in
theorem c_inh (l : Launch) (Z : State) (a0 : Array Value) (hw : ∀ d ∈ tables_1, d.before a0 Z = true) (o1 o2 : Addr) (d1 x1 y1 : Addr) (n1 g1 : Int32) (i1 : Value) (d2 x2 y2 : Addr) (n2 g2 : Int32) (i2 : Value) (aE : Addr) (F : OH)  :
    Met l Z (⟨"com/example/dalles/dalles/schema/PostgreSqlColumn", "inheritDefault", "(Lcom/example/dalles/dalles/schema/PostgreSqlColumn;)V"⟩ : MethodName) prog_46_method_10_code 2 none ({ frames := 1, cells := 0, slots := 0, locals := 13 } : Room) [(.ref o1), (.ref o2)] ((o1, oI "com/example/dalles/dalles/schema/PostgreSqlColumn" sg_3 [(.ref d1), (.ref aE), (.ref x1), (.ref y1), (.int n1), (.int g1), i1]) :: (o2, oI "com/example/dalles/dalles/schema/PostgreSqlColumn" sg_3 [(.ref d2), (.ref aE), (.ref x2), (.ref y2), (.int n2), (.int g2), i2]) :: F) (Q_c_inh o1 o2 d1 x1 y1 n1 g1 i1 d2 x2 y2 n2 g2 i2 aE F) := by
  refine Met.of_wp (Ls := #[.val (.ref o1), .val (.ref o2)]) pn_10 (fun m => by first | rfl | (simp [entryFrame, mkF, argsToLocals, Value.category]; done)) ?_
  show Wp none l Z "com/example/dalles/dalles/schema/PostgreSqlColumn" "inheritDefault" prog_46_method_10_code 2 none ({ frames := 1, cells := 0, slots := 0, locals := 13 } : Room) ((o1, oI "com/example/dalles/dalles/schema/PostgreSqlColumn" sg_3 [(.ref d1), (.ref aE), (.ref x1), (.ref y1), (.int n1), (.int g1), i1]) :: (o2, oI "com/example/dalles/dalles/schema/PostgreSqlColumn" sg_3 [(.ref d2), (.ref aE), (.ref x2), (.ref y2), (.int n2), (.int g2), i2]) :: F) 0 0 0 #[.val (.ref o1), .val (.ref o2)] [] (Q_c_inh o1 o2 d1 x1 y1 n1 g1 i1 d2 x2 y2 n2 g2 i2 aE F)
  refine wp_aload_n D_prog_46_m10_0 rfl rfl ?_
  refine wp_getfield D_prog_46_m10_1 (hw _ (List.mem_of_getElem? (i := 74) rfl)) (fld_new (i := 0) (fi := 5) rfl rfl rfl) ?_
  refine wp_if_ne D_prog_46_m10_4 (pc'' := 22) ⟨by decide, by decide⟩ (fun h1 => ?_) (fun h1 => ?_)
  · skip
    refine wp_return D_prog_46_m10_22 rfl (by decide) (by decide) ?_
    exact ⟨rfl, by simp [fh, fd, h1]⟩
  · skip
    refine wp_aload_n D_prog_46_m10_7 rfl rfl ?_
    refine wp_getfield D_prog_46_m10_8 (hw _ (List.mem_of_getElem? (i := 74) rfl)) (fld_new (i := 1) (fi := 5) rfl rfl rfl) ?_
    refine wp_if_eq D_prog_46_m10_11 (pc'' := 22) ⟨by decide, by decide⟩ (fun h2 => ?_) (fun h2 => ?_)
    · skip
      refine wp_return D_prog_46_m10_22 rfl (by decide) (by decide) ?_
      exact ⟨rfl, by simp [fh, fd, h1, h2]⟩
    · skip
      refine wp_aload_n D_prog_46_m10_14 rfl rfl ?_
      refine wp_aload_n D_prog_46_m10_15 rfl rfl ?_
      refine wp_getfield D_prog_46_m10_16 (hw _ (List.mem_of_getElem? (i := 53) rfl)) (fld_new (i := 1) (fi := 0) rfl rfl rfl) ?_
      refine wp_virtual (c_set l Z a0 hw d2 o1 d1 x1 y1 n1 g1 i1 aE ((o2, oI "com/example/dalles/dalles/schema/PostgreSqlColumn" sg_3 [(.ref d2), (.ref aE), (.ref x2), (.ref y2), (.int n2), (.int g2), i2]) :: F)) (exa_new (i := 0) rfl) D_prog_46_m10_19 (hw _ (List.mem_of_getElem? (i := 99) rfl)) (hw _ (List.mem_of_getElem? (i := 90) rfl)) (hw _ (List.mem_of_getElem? (i := 92) rfl)) (hw _ (List.mem_of_getElem? (i := 92) rfl)) (hw _ (List.mem_of_getElem? (i := 91) rfl)) (hw _ (List.mem_of_getElem? (i := 44) rfl)) (hw _ (List.mem_of_getElem? (i := 93) rfl)) (by decide) pd_4 rfl rfl rfl (Nat.le_of_ble_eq_true rfl) (Nat.le_of_ble_eq_true rfl) (Nat.le_of_ble_eq_true rfl) (Nat.le_of_ble_eq_true rfl) ?_
      rintro _ _ ⟨rfl, rfl⟩
      show Wp none l Z "com/example/dalles/dalles/schema/PostgreSqlColumn" "inheritDefault" prog_46_method_10_code 2 none ({ frames := 1, cells := 0, slots := 0, locals := 13 } : Room) ((o1, oI "com/example/dalles/dalles/schema/PostgreSqlColumn" sg_3 [(.ref d2), (.ref aE), (.ref x1), (.ref y1), (.int n1), (.int (1 : Int32)), i1]) :: (o2, oI "com/example/dalles/dalles/schema/PostgreSqlColumn" sg_3 [(.ref d2), (.ref aE), (.ref x2), (.ref y2), (.int n2), (.int g2), i2]) :: F) 0 0 22 #[.val (.ref o1), .val (.ref o2)] [] (Q_c_inh o1 o2 d1 x1 y1 n1 g1 i1 d2 x2 y2 n2 g2 i2 aE F)
      refine wp_return D_prog_46_m10_22 rfl (by decide) (by decide) ?_
      exact ⟨rfl, by simp [fh, fd, h1, h2]⟩
theorem pd_6 : parseMethodDescriptor "(Ljava/lang/String;Ljava/lang/String;)V" = some ⟨[(.object "java/lang/String"), (.object "java/lang/String")], none⟩ := by decide +kernel
theorem pd_7 : parseMethodDescriptor "(Ljava/lang/String;Ljava/lang/String;I)V" = some ⟨[(.object "java/lang/String"), (.object "java/lang/String"), .int], none⟩ := by decide +kernel
theorem pd_8 : parseMethodDescriptor "(Lcom/example/dalles/dalles/schema/PostgreSqlColumn;)V" = some ⟨[(.object "com/example/dalles/dalles/schema/PostgreSqlColumn")], none⟩ := by decide +kernel
theorem pd_9 : parseMethodDescriptor "()Lcom/example/dalles/dalles/schema/Fill;" = some ⟨[], (some (.object "com/example/dalles/dalles/schema/Fill"))⟩ := by decide +kernel
theorem pd_10 : parseMethodDescriptor "(ILcom/example/dalles/dalles/schema/Fill;)Lcom/example/dalles/dalles/schema/Fill;" = some ⟨[.int, (.object "com/example/dalles/dalles/schema/Fill")], (some (.object "com/example/dalles/dalles/schema/Fill"))⟩ := by decide +kernel
theorem pd_11 : parseMethodDescriptor "(Lcom/example/dalles/dalles/schema/Sequence;)V" = some ⟨[(.object "com/example/dalles/dalles/schema/Sequence")], none⟩ := by decide +kernel
theorem pn_11 : plainFor (⟨"com/example/dalles/dalles/schema/PostgreSqlColumnInheritDefaultPinLaw", "pick", "(ILcom/example/dalles/dalles/schema/Fill;)Lcom/example/dalles/dalles/schema/Fill;"⟩ : MethodName) = true := by first | exact plainFor_of_name (by first | (simp [plainName, overriddenIn]; done) | decide +kernel) | decide +kernel
theorem D_m2_0 : Dc method_2_code 0 (.iload_n 0) 1 1 := ⟨by decide +kernel, rfl⟩
theorem D_m2_1 : Dc method_2_code 1 (.iconst 1) 1 2 := ⟨by decide +kernel, rfl⟩
theorem D_m2_2 : Dc method_2_code 2 (.if_icmp .ne 7) 3 5 := ⟨by decide +kernel, rfl⟩
theorem D_m2_5 : Dc method_2_code 5 (.getstatic 7) 3 8 := ⟨by decide +kernel, rfl⟩
theorem D_m2_8 : Dc method_2_code 8 (.areturn) 1 9 := ⟨by decide +kernel, rfl⟩
theorem D_m2_9 : Dc method_2_code 9 (.iload_n 0) 1 10 := ⟨by decide +kernel, rfl⟩
theorem D_m2_10 : Dc method_2_code 10 (.iconst 2) 1 11 := ⟨by decide +kernel, rfl⟩
theorem D_m2_11 : Dc method_2_code 11 (.if_icmp .ne 7) 3 14 := ⟨by decide +kernel, rfl⟩
theorem D_m2_14 : Dc method_2_code 14 (.getstatic 13) 3 17 := ⟨by decide +kernel, rfl⟩
theorem D_m2_17 : Dc method_2_code 17 (.areturn) 1 18 := ⟨by decide +kernel, rfl⟩
theorem D_m2_18 : Dc method_2_code 18 (.aload_n 1) 1 19 := ⟨by decide +kernel, rfl⟩
theorem D_m2_19 : Dc method_2_code 19 (.areturn) 1 20 := ⟨by decide +kernel, rfl⟩
def Q_c_pick (k : Int32) (f aN aR : Addr) (H : OH) : Option Value → OH → Prop := fun v H' => v = some (.ref (pk aN aR k f)) ∧ H' = H
set_option maxRecDepth 65536 in
set_option maxHeartbeats 40000000 in
theorem c_pick (l : Launch) (Z : State) (a0 : Array Value) (hw : ∀ d ∈ tables_1, d.before a0 Z = true) (k : Int32) (f aN aR : Addr) (H : OH) (S_N : Sta Z Z.heap "com/example/dalles/dalles/schema/Fill" "NONE" "Lcom/example/dalles/dalles/schema/Fill;" (.ref aN)) (S_R : Sta Z Z.heap "com/example/dalles/dalles/schema/Fill" "RANDOM_UUID" "Lcom/example/dalles/dalles/schema/Fill;" (.ref aR)):
    Met l Z (⟨"com/example/dalles/dalles/schema/PostgreSqlColumnInheritDefaultPinLaw", "pick", "(ILcom/example/dalles/dalles/schema/Fill;)Lcom/example/dalles/dalles/schema/Fill;"⟩ : MethodName) method_2_code 2 (some (.object "com/example/dalles/dalles/schema/Fill")) ({ frames := 0, cells := 0, slots := 0, locals := 0 } : Room) [(.int k), (.ref f)] H (Q_c_pick k f aN aR H) := by
  refine Met.of_wp (Ls := #[.val (.int k), .val (.ref f)]) pn_11 (fun m => by first | rfl | (simp [entryFrame, mkF, argsToLocals, Value.category]; done)) ?_
  show Wp none l Z "com/example/dalles/dalles/schema/PostgreSqlColumnInheritDefaultPinLaw" "pick" method_2_code 2 (some (.object "com/example/dalles/dalles/schema/Fill")) ({ frames := 0, cells := 0, slots := 0, locals := 0 } : Room) H 0 0 0 #[.val (.int k), .val (.ref f)] [] (Q_c_pick k f aN aR H)
  refine wp_iload_n D_m2_0 rfl ?_
  refine wp_iconst 1 D_m2_1 (by decide) ?_
  refine wp_icmp_ne D_m2_2 (pc'' := 9) ⟨by decide, by decide⟩ (fun h1 => ?_) (fun h1 => ?_)
  · skip
    refine wp_iload_n D_m2_9 rfl ?_
    refine wp_iconst 2 D_m2_10 (by decide) ?_
    refine wp_icmp_ne D_m2_11 (pc'' := 18) ⟨by decide, by decide⟩ (fun h2 => ?_) (fun h2 => ?_)
    · skip
      refine wp_aload_n D_m2_18 rfl rfl ?_
      refine wp_areturn D_m2_19 rfl rfl rfl rfl (by decide) (by decide) ?_
      exact ⟨by simp [pk, h1, h2], rfl⟩
    · skip
      refine wp_getstatic D_m2_14 (hw _ (List.mem_of_getElem? (i := 87) rfl)) S_R ?_
      refine wp_areturn D_m2_17 rfl rfl rfl rfl (by decide) (by decide) ?_
      exact ⟨by simp [pk, h1, h2], rfl⟩
  · skip
    refine wp_getstatic D_m2_5 (hw _ (List.mem_of_getElem? (i := 68) rfl)) S_N ?_
    refine wp_areturn D_m2_8 rfl rfl rfl rfl (by decide) (by decide) ?_
    exact ⟨by simp [pk, h1], rfl⟩
theorem pn_12 : plainFor (⟨"com/example/dalles/dalles/schema/PostgreSqlColumnInheritDefaultPinLaw", "law", "(II)Z"⟩ : MethodName) = true := by first | exact plainFor_of_name (by first | (simp [plainName, overriddenIn]; done) | decide +kernel) | decide +kernel
def Q_law : Option Value → OH → Prop := fun v H' => v = some (.int 1)
theorem D_0 : Dc code 0 (.iload_n 0) 1 1 := ⟨at_0, rfl⟩
theorem D_1 : Dc code 1 (.iconst 3) 1 2 := ⟨at_1, rfl⟩
theorem D_2 : Dc code 2 (.iand) 1 3 := ⟨at_2, rfl⟩
theorem D_3 : Dc code 3 (.istore_n 2) 1 4 := ⟨at_3, rfl⟩
theorem D_4 : Dc code 4 (.iload_n 0) 1 5 := ⟨at_4, rfl⟩
theorem D_5 : Dc code 5 (.iconst 2) 1 6 := ⟨at_5, rfl⟩
theorem D_6 : Dc code 6 (.iushr) 1 7 := ⟨at_6, rfl⟩
theorem D_7 : Dc code 7 (.iconst 3) 1 8 := ⟨at_7, rfl⟩
theorem D_8 : Dc code 8 (.iand) 1 9 := ⟨at_8, rfl⟩
theorem D_9 : Dc code 9 (.istore_n 3) 1 10 := ⟨at_9, rfl⟩
theorem D_10 : Dc code 10 (.iload_n 0) 1 11 := ⟨at_10, rfl⟩
theorem D_11 : Dc code 11 (.iconst 4) 1 12 := ⟨at_11, rfl⟩
theorem D_12 : Dc code 12 (.iushr) 1 13 := ⟨at_12, rfl⟩
theorem D_13 : Dc code 13 (.iconst 3) 1 14 := ⟨at_13, rfl⟩
theorem D_14 : Dc code 14 (.iand) 1 15 := ⟨at_14, rfl⟩
theorem D_15 : Dc code 15 (.istore 4) 2 17 := ⟨at_15, rfl⟩
theorem D_17 : Dc code 17 (.iload_n 0) 1 18 := ⟨at_17, rfl⟩
theorem D_18 : Dc code 18 (.bipush 6) 2 20 := ⟨at_18, rfl⟩
theorem D_20 : Dc code 20 (.iushr) 1 21 := ⟨at_20, rfl⟩
theorem D_21 : Dc code 21 (.iconst 1) 1 22 := ⟨at_21, rfl⟩
theorem D_22 : Dc code 22 (.iand) 1 23 := ⟨at_22, rfl⟩
theorem D_23 : Dc code 23 (.ifCond .eq 7) 3 26 := ⟨at_23, rfl⟩
theorem D_26 : Dc code 26 (.iconst 1) 1 27 := ⟨at_26, rfl⟩
theorem D_27 : Dc code 27 (.goto 4) 3 30 := ⟨at_27, rfl⟩
theorem D_30 : Dc code 30 (.iconst 0) 1 31 := ⟨at_30, rfl⟩
theorem D_31 : Dc code 31 (.istore 5) 2 33 := ⟨at_31, rfl⟩
theorem D_33 : Dc code 33 (.iload_n 0) 1 34 := ⟨at_33, rfl⟩
theorem D_34 : Dc code 34 (.bipush 7) 2 36 := ⟨at_34, rfl⟩
theorem D_36 : Dc code 36 (.iushr) 1 37 := ⟨at_36, rfl⟩
theorem D_37 : Dc code 37 (.iconst 1) 1 38 := ⟨at_37, rfl⟩
theorem D_38 : Dc code 38 (.iand) 1 39 := ⟨at_38, rfl⟩
theorem D_39 : Dc code 39 (.ifCond .eq 7) 3 42 := ⟨at_39, rfl⟩
theorem D_42 : Dc code 42 (.iconst 1) 1 43 := ⟨at_42, rfl⟩
theorem D_43 : Dc code 43 (.goto 4) 3 46 := ⟨at_43, rfl⟩
theorem D_46 : Dc code 46 (.iconst 0) 1 47 := ⟨at_46, rfl⟩
theorem D_47 : Dc code 47 (.istore 6) 2 49 := ⟨at_47, rfl⟩
theorem D_49 : Dc code 49 (.new 16) 3 52 := ⟨at_49, rfl⟩
theorem D_52 : Dc code 52 (.dup) 1 53 := ⟨at_52, rfl⟩
theorem D_53 : Dc code 53 (.ldc 18) 2 55 := ⟨at_53, rfl⟩
theorem D_55 : Dc code 55 (.ldc 20) 2 57 := ⟨at_55, rfl⟩
theorem D_57 : Dc code 57 (.invokespecial 22) 3 60 := ⟨at_57, rfl⟩
theorem D_60 : Dc code 60 (.astore 7) 2 62 := ⟨at_60, rfl⟩
theorem D_62 : Dc code 62 (.aload 7) 2 64 := ⟨at_62, rfl⟩
theorem D_64 : Dc code 64 (.invokestatic 25) 3 67 := ⟨at_64, rfl⟩
theorem D_67 : Dc code 67 (.astore 8) 2 69 := ⟨at_67, rfl⟩
theorem D_69 : Dc code 69 (.new 29) 3 72 := ⟨at_69, rfl⟩
theorem D_72 : Dc code 72 (.dup) 1 73 := ⟨at_72, rfl⟩
theorem D_73 : Dc code 73 (.ldc 31) 2 75 := ⟨at_73, rfl⟩
theorem D_75 : Dc code 75 (.ldc 33) 2 77 := ⟨at_75, rfl⟩
theorem D_77 : Dc code 77 (.iload_n 1) 1 78 := ⟨at_77, rfl⟩
theorem D_78 : Dc code 78 (.invokespecial 35) 3 81 := ⟨at_78, rfl⟩
theorem D_81 : Dc code 81 (.astore 9) 2 83 := ⟨at_81, rfl⟩
theorem D_83 : Dc code 83 (.new 29) 3 86 := ⟨at_83, rfl⟩
theorem D_86 : Dc code 86 (.dup) 1 87 := ⟨at_86, rfl⟩
theorem D_87 : Dc code 87 (.ldc 31) 2 89 := ⟨at_87, rfl⟩
theorem D_89 : Dc code 89 (.ldc 33) 2 91 := ⟨at_89, rfl⟩
theorem D_91 : Dc code 91 (.iload_n 1) 1 92 := ⟨at_91, rfl⟩
theorem D_92 : Dc code 92 (.invokespecial 35) 3 95 := ⟨at_92, rfl⟩
theorem D_95 : Dc code 95 (.astore 10) 2 97 := ⟨at_95, rfl⟩
theorem D_97 : Dc code 97 (.new 29) 3 100 := ⟨at_97, rfl⟩
theorem D_100 : Dc code 100 (.dup) 1 101 := ⟨at_100, rfl⟩
theorem D_101 : Dc code 101 (.ldc 31) 2 103 := ⟨at_101, rfl⟩
theorem D_103 : Dc code 103 (.ldc 33) 2 105 := ⟨at_103, rfl⟩
theorem D_105 : Dc code 105 (.iload_n 1) 1 106 := ⟨at_105, rfl⟩
theorem D_106 : Dc code 106 (.invokespecial 35) 3 109 := ⟨at_106, rfl⟩
theorem D_109 : Dc code 109 (.astore 11) 2 111 := ⟨at_109, rfl⟩
theorem D_111 : Dc code 111 (.iload_n 2) 1 112 := ⟨at_111, rfl⟩
theorem D_112 : Dc code 112 (.ifCond .eq 14) 3 115 := ⟨at_112, rfl⟩
theorem D_115 : Dc code 115 (.aload 9) 2 117 := ⟨at_115, rfl⟩
theorem D_117 : Dc code 117 (.iload_n 2) 1 118 := ⟨at_117, rfl⟩
theorem D_118 : Dc code 118 (.aload 8) 2 120 := ⟨at_118, rfl⟩
theorem D_120 : Dc code 120 (.invokestatic 38) 3 123 := ⟨at_120, rfl⟩
theorem D_123 : Dc code 123 (.invokevirtual 44) 3 126 := ⟨at_123, rfl⟩
theorem D_126 : Dc code 126 (.iload_n 3) 1 127 := ⟨at_126, rfl⟩
theorem D_127 : Dc code 127 (.ifCond .eq 14) 3 130 := ⟨at_127, rfl⟩
theorem D_130 : Dc code 130 (.aload 10) 2 132 := ⟨at_130, rfl⟩
theorem D_132 : Dc code 132 (.iload_n 3) 1 133 := ⟨at_132, rfl⟩
theorem D_133 : Dc code 133 (.aload 8) 2 135 := ⟨at_133, rfl⟩
theorem D_135 : Dc code 135 (.invokestatic 38) 3 138 := ⟨at_135, rfl⟩
theorem D_138 : Dc code 138 (.invokevirtual 44) 3 141 := ⟨at_138, rfl⟩
theorem D_141 : Dc code 141 (.iload 4) 2 143 := ⟨at_141, rfl⟩
theorem D_143 : Dc code 143 (.ifCond .eq 15) 3 146 := ⟨at_143, rfl⟩
theorem D_146 : Dc code 146 (.aload 11) 2 148 := ⟨at_146, rfl⟩
theorem D_148 : Dc code 148 (.iload 4) 2 150 := ⟨at_148, rfl⟩
theorem D_150 : Dc code 150 (.aload 8) 2 152 := ⟨at_150, rfl⟩
theorem D_152 : Dc code 152 (.invokestatic 38) 3 155 := ⟨at_152, rfl⟩
theorem D_155 : Dc code 155 (.invokevirtual 44) 3 158 := ⟨at_155, rfl⟩
theorem D_158 : Dc code 158 (.iload 5) 2 160 := ⟨at_158, rfl⟩
theorem D_160 : Dc code 160 (.ifCond .eq 10) 3 163 := ⟨at_160, rfl⟩
theorem D_163 : Dc code 163 (.aload 10) 2 165 := ⟨at_163, rfl⟩
theorem D_165 : Dc code 165 (.aload 7) 2 167 := ⟨at_165, rfl⟩
theorem D_167 : Dc code 167 (.invokevirtual 48) 3 170 := ⟨at_167, rfl⟩
theorem D_170 : Dc code 170 (.iload_n 2) 1 171 := ⟨at_170, rfl⟩
theorem D_171 : Dc code 171 (.ifCond .eq 7) 3 174 := ⟨at_171, rfl⟩
theorem D_174 : Dc code 174 (.iconst 1) 1 175 := ⟨at_174, rfl⟩
theorem D_175 : Dc code 175 (.goto 4) 3 178 := ⟨at_175, rfl⟩
theorem D_178 : Dc code 178 (.iconst 0) 1 179 := ⟨at_178, rfl⟩
theorem D_179 : Dc code 179 (.istore 12) 2 181 := ⟨at_179, rfl⟩
theorem D_181 : Dc code 181 (.iload 12) 2 183 := ⟨at_181, rfl⟩
theorem D_183 : Dc code 183 (.ifCond .eq 12) 3 186 := ⟨at_183, rfl⟩
theorem D_186 : Dc code 186 (.iload_n 2) 1 187 := ⟨at_186, rfl⟩
theorem D_187 : Dc code 187 (.aload 8) 2 189 := ⟨at_187, rfl⟩
theorem D_189 : Dc code 189 (.invokestatic 38) 3 192 := ⟨at_189, rfl⟩
theorem D_192 : Dc code 192 (.goto 6) 3 195 := ⟨at_192, rfl⟩
theorem D_195 : Dc code 195 (.getstatic 7) 3 198 := ⟨at_195, rfl⟩
theorem D_198 : Dc code 198 (.astore 13) 2 200 := ⟨at_198, rfl⟩
theorem D_200 : Dc code 200 (.aload 9) 2 202 := ⟨at_200, rfl⟩
theorem D_202 : Dc code 202 (.aload 10) 2 204 := ⟨at_202, rfl⟩
theorem D_204 : Dc code 204 (.invokevirtual 52) 3 207 := ⟨at_204, rfl⟩
theorem D_207 : Dc code 207 (.iload 12) 2 209 := ⟨at_207, rfl⟩
theorem D_209 : Dc code 209 (.ifCond .ne 18) 3 212 := ⟨at_209, rfl⟩
theorem D_212 : Dc code 212 (.iload_n 3) 1 213 := ⟨at_212, rfl⟩
theorem D_213 : Dc code 213 (.ifCond .eq 14) 3 216 := ⟨at_213, rfl⟩
theorem D_216 : Dc code 216 (.iconst 1) 1 217 := ⟨at_216, rfl⟩
theorem D_217 : Dc code 217 (.istore 12) 2 219 := ⟨at_217, rfl⟩
theorem D_219 : Dc code 219 (.iload_n 3) 1 220 := ⟨at_219, rfl⟩
theorem D_220 : Dc code 220 (.aload 8) 2 222 := ⟨at_220, rfl⟩
theorem D_222 : Dc code 222 (.invokestatic 38) 3 225 := ⟨at_222, rfl⟩
theorem D_225 : Dc code 225 (.astore 13) 2 227 := ⟨at_225, rfl⟩
theorem D_227 : Dc code 227 (.iload 6) 2 229 := ⟨at_227, rfl⟩
theorem D_229 : Dc code 229 (.ifCond .eq 32) 3 232 := ⟨at_229, rfl⟩
theorem D_232 : Dc code 232 (.aload 9) 2 234 := ⟨at_232, rfl⟩
theorem D_234 : Dc code 234 (.aload 11) 2 236 := ⟨at_234, rfl⟩
theorem D_236 : Dc code 236 (.invokevirtual 52) 3 239 := ⟨at_236, rfl⟩
theorem D_239 : Dc code 239 (.iload 12) 2 241 := ⟨at_239, rfl⟩
theorem D_241 : Dc code 241 (.ifCond .ne 20) 3 244 := ⟨at_241, rfl⟩
theorem D_244 : Dc code 244 (.iload 4) 2 246 := ⟨at_244, rfl⟩
theorem D_246 : Dc code 246 (.ifCond .eq 15) 3 249 := ⟨at_246, rfl⟩
theorem D_249 : Dc code 249 (.iconst 1) 1 250 := ⟨at_249, rfl⟩
theorem D_250 : Dc code 250 (.istore 12) 2 252 := ⟨at_250, rfl⟩
theorem D_252 : Dc code 252 (.iload 4) 2 254 := ⟨at_252, rfl⟩
theorem D_254 : Dc code 254 (.aload 8) 2 256 := ⟨at_254, rfl⟩
theorem D_256 : Dc code 256 (.invokestatic 38) 3 259 := ⟨at_256, rfl⟩
theorem D_259 : Dc code 259 (.astore 13) 2 261 := ⟨at_259, rfl⟩
theorem D_261 : Dc code 261 (.aload 9) 2 263 := ⟨at_261, rfl⟩
theorem D_263 : Dc code 263 (.invokevirtual 56) 3 266 := ⟨at_263, rfl⟩
theorem D_266 : Dc code 266 (.aload 13) 2 268 := ⟨at_266, rfl⟩
theorem D_268 : Dc code 268 (.if_acmp .ne 7) 3 271 := ⟨at_268, rfl⟩
theorem D_271 : Dc code 271 (.iconst 1) 1 272 := ⟨at_271, rfl⟩
theorem D_272 : Dc code 272 (.goto 4) 3 275 := ⟨at_272, rfl⟩
theorem D_275 : Dc code 275 (.iconst 0) 1 276 := ⟨at_275, rfl⟩
theorem D_276 : Dc code 276 (.ireturn) 1 277 := ⟨at_276, rfl⟩
set_option maxRecDepth 65536 in
set_option maxHeartbeats 40000000 in
theorem law_wp (l : Launch) (Z : State) (a0 : Array Value) (hw : ∀ d ∈ tables_1, d.before a0 Z = true) (flags : Int32) (line : Int32) (aN aR aE : Addr) (S_N : Sta Z Z.heap "com/example/dalles/dalles/schema/Fill" "NONE" "Lcom/example/dalles/dalles/schema/Fill;" (.ref aN)) (S_R : Sta Z Z.heap "com/example/dalles/dalles/schema/Fill" "RANDOM_UUID" "Lcom/example/dalles/dalles/schema/Fill;" (.ref aR)) (S_E : Sta Z Z.heap "java/util/Optional" "EMPTY" "Ljava/util/Optional;" (.ref aE)) : Wp (some none) l Z "com/example/dalles/dalles/schema/PostgreSqlColumnInheritDefaultPinLaw" "law" code maxLocals ret room_1 [] 0 0 0 #[.val (.int flags), .val (.int line), .unset, .unset, .unset, .unset, .unset, .unset, .unset, .unset, .unset, .unset, .unset, .unset] [] Q_law := by
  have wS : ∀ a ∈ Bundle.stringAtoms, a.before a0 Z = true := by
    intro d hd
    simp only [Bundle.stringAtoms, List.mem_cons, List.not_mem_nil, or_false] at hd
    rcases hd with rfl | rfl | rfl | rfl | rfl | rfl | rfl
    · exact (hw _ (List.mem_of_getElem? (i := 4) rfl))
    · exact (hw _ (List.mem_of_getElem? (i := 5) rfl))
    · exact (hw _ (List.mem_of_getElem? (i := 6) rfl))
    · exact (hw _ (List.mem_of_getElem? (i := 7) rfl))
    · exact (hw _ (List.mem_of_getElem? (i := 8) rfl))
    · exact (hw _ (List.mem_of_getElem? (i := 9) rfl))
    · exact (hw _ (List.mem_of_getElem? (i := 10) rfl))
  refine wp_iload_n D_0 rfl ?_
  refine wp_iconst 3 D_1 (by decide) ?_
  refine wp_iand D_2 ?_
  generalize hg_x1 : (flags &&& (3 : Int32)) = x1
  refine wp_istore_n #[.val (.int flags), .val (.int line), .val (.int x1), .unset, .unset, .unset, .unset, .unset, .unset, .unset, .unset, .unset, .unset, .unset] D_3 rfl ?_
  refine wp_iload_n D_4 rfl ?_
  refine wp_iconst 2 D_5 (by decide) ?_
  refine wp_iushr D_6 ?_
  refine wp_iconst 3 D_7 (by decide) ?_
  refine wp_iand D_8 ?_
  generalize hg_x2 : ((XT.ushr flags (2 : Int32)) &&& (3 : Int32)) = x2
  refine wp_istore_n #[.val (.int flags), .val (.int line), .val (.int x1), .val (.int x2), .unset, .unset, .unset, .unset, .unset, .unset, .unset, .unset, .unset, .unset] D_9 rfl ?_
  refine wp_iload_n D_10 rfl ?_
  refine wp_iconst 4 D_11 (by decide) ?_
  refine wp_iushr D_12 ?_
  refine wp_iconst 3 D_13 (by decide) ?_
  refine wp_iand D_14 ?_
  generalize hg_x3 : ((XT.ushr flags (4 : Int32)) &&& (3 : Int32)) = x3
  refine wp_istore #[.val (.int flags), .val (.int line), .val (.int x1), .val (.int x2), .val (.int x3), .unset, .unset, .unset, .unset, .unset, .unset, .unset, .unset, .unset] D_15 rfl ?_
  refine wp_iload_n D_17 rfl ?_
  refine wp_bipush 6 D_18 (by decide) ?_
  refine wp_iushr D_20 ?_
  refine wp_iconst 1 D_21 (by decide) ?_
  refine wp_iand D_22 ?_
  have J7 : ∀ (b5 : Int32), ((((XT.ushr flags (6 : Int32)) &&& (1 : Int32)) = (0 : Int32) ∧ b5 = (0 : Int32)) ∨ (¬ ((XT.ushr flags (6 : Int32)) &&& (1 : Int32)) = (0 : Int32) ∧ b5 = (1 : Int32))) → Wp (some none) l Z "com/example/dalles/dalles/schema/PostgreSqlColumnInheritDefaultPinLaw" "law" code maxLocals ret room_1 [] 0 0 31 #[.val (.int flags), .val (.int line), .val (.int x1), .val (.int x2), .val (.int x3), .unset, .unset, .unset, .unset, .unset, .unset, .unset, .unset, .unset] [(.int b5)] Q_law := by
    intro b5 hj6
    refine wp_istore #[.val (.int flags), .val (.int line), .val (.int x1), .val (.int x2), .val (.int x3), .val (.int b5), .unset, .unset, .unset, .unset, .unset, .unset, .unset, .unset] D_31 rfl ?_
    refine wp_iload_n D_33 rfl ?_
    refine wp_bipush 7 D_34 (by decide) ?_
    refine wp_iushr D_36 ?_
    refine wp_iconst 1 D_37 (by decide) ?_
    refine wp_iand D_38 ?_
    have J11 : ∀ (b9 : Int32), ((((XT.ushr flags (7 : Int32)) &&& (1 : Int32)) = (0 : Int32) ∧ b9 = (0 : Int32)) ∨ (¬ ((XT.ushr flags (7 : Int32)) &&& (1 : Int32)) = (0 : Int32) ∧ b9 = (1 : Int32))) → Wp (some none) l Z "com/example/dalles/dalles/schema/PostgreSqlColumnInheritDefaultPinLaw" "law" code maxLocals ret room_1 [] 0 0 47 #[.val (.int flags), .val (.int line), .val (.int x1), .val (.int x2), .val (.int x3), .val (.int b5), .unset, .unset, .unset, .unset, .unset, .unset, .unset, .unset] [(.int b9)] Q_law := by
      intro b9 hj10
      refine wp_istore #[.val (.int flags), .val (.int line), .val (.int x1), .val (.int x2), .val (.int x3), .val (.int b5), .val (.int b9), .unset, .unset, .unset, .unset, .unset, .unset, .unset] D_47 rfl ?_
      refine wp_new sg_1 [(.null), (.null)] D_49 (hw _ (List.mem_of_getElem? (i := 0) rfl)) (hw _ (List.mem_of_getElem? (i := 1) rfl)) (hw _ (List.mem_of_getElem? (i := 2) rfl)) (laid_sg_1 l Z a0 hw) (by decide) dfl_sg_1 (by decide) (by decide) ?_
      intro a12
      show Wp (some none) l Z "com/example/dalles/dalles/schema/PostgreSqlColumnInheritDefaultPinLaw" "law" code maxLocals ret room_1 [(a12, oI "com/example/dalles/dalles/schema/Sequence" sg_1 [(.null), (.null)])] 1 2 52 #[.val (.int flags), .val (.int line), .val (.int x1), .val (.int x2), .val (.int x3), .val (.int b5), .val (.int b9), .unset, .unset, .unset, .unset, .unset, .unset, .unset] [(.ref a12)] Q_law
      refine wp_dup D_52 rfl ?_
      refine wp_ldcS (n := 12) D_53 rfl (hw _ (List.mem_of_getElem? (i := 3) rfl)) wS (by decide) (by decide) (by decide) (by decide) ?_
      intro s13
      show Wp (some none) l Z "com/example/dalles/dalles/schema/PostgreSqlColumnInheritDefaultPinLaw" "law" code maxLocals ret room_1 [(a12, oI "com/example/dalles/dalles/schema/Sequence" sg_1 [(.null), (.null)])] 3 18 55 #[.val (.int flags), .val (.int line), .val (.int x1), .val (.int x2), .val (.int x3), .val (.int b5), .val (.int b9), .unset, .unset, .unset, .unset, .unset, .unset, .unset] [(.ref s13), (.ref a12), (.ref a12)] Q_law
      refine wp_ldcS (n := 4) D_55 rfl (hw _ (List.mem_of_getElem? (i := 11) rfl)) wS (by decide) (by decide) (by decide) (by decide) ?_
      intro s14
      show Wp (some none) l Z "com/example/dalles/dalles/schema/PostgreSqlColumnInheritDefaultPinLaw" "law" code maxLocals ret room_1 [(a12, oI "com/example/dalles/dalles/schema/Sequence" sg_1 [(.null), (.null)])] 5 26 57 #[.val (.int flags), .val (.int line), .val (.int x1), .val (.int x2), .val (.int x3), .val (.int b5), .val (.int b9), .unset, .unset, .unset, .unset, .unset, .unset, .unset] [(.ref s14), (.ref s13), (.ref a12), (.ref a12)] Q_law
      refine wp_init (c_seq l Z a0 hw a12 s13 s14 []) D_57 rfl (hw _ (List.mem_of_getElem? (i := 12) rfl)) (hw _ (List.mem_of_getElem? (i := 13) rfl)) (hw _ (List.mem_of_getElem? (i := 2) rfl)) (hw _ (List.mem_of_getElem? (i := 14) rfl)) (by decide) pd_6 rfl rfl rfl (Nat.le_of_ble_eq_true rfl) (Nat.le_of_ble_eq_true rfl) (Nat.le_of_ble_eq_true rfl) (Nat.le_of_ble_eq_true rfl) ?_
      rintro _ _ ⟨rfl, rfl⟩
      show Wp (some none) l Z "com/example/dalles/dalles/schema/PostgreSqlColumnInheritDefaultPinLaw" "law" code maxLocals ret room_1 [(a12, oI "com/example/dalles/dalles/schema/Sequence" sg_1 [(.ref s13), (.ref s14)])] 5 26 60 #[.val (.int flags), .val (.int line), .val (.int x1), .val (.int x2), .val (.int x3), .val (.int b5), .val (.int b9), .unset, .unset, .unset, .unset, .unset, .unset, .unset] [(.ref a12)] Q_law
      refine wp_astore #[.val (.int flags), .val (.int line), .val (.int x1), .val (.int x2), .val (.int x3), .val (.int b5), .val (.int b9), .val (.ref a12), .unset, .unset, .unset, .unset, .unset, .unset] D_60 rfl rfl ?_
      refine wp_aload D_62 rfl rfl ?_
      refine wp_callS (c_from l Z a0 hw a12 s13 s14 []) D_64 (hw _ (List.mem_of_getElem? (i := 22) rfl)) (hw _ (List.mem_of_getElem? (i := 23) rfl)) (hw _ (List.mem_of_getElem? (i := 24) rfl)) (hw _ (List.mem_of_getElem? (i := 25) rfl)) (by decide) pd_5 rfl rfl rfl (Nat.le_of_ble_eq_true rfl) (Nat.le_of_ble_eq_true rfl) (Nat.le_of_ble_eq_true rfl) (Nat.le_of_ble_eq_true rfl) ?_
      rintro _ _ ⟨f15, rfl, rfl⟩
      show Wp (some none) l Z "com/example/dalles/dalles/schema/PostgreSqlColumnInheritDefaultPinLaw" "law" code maxLocals ret room_1 [(f15, oI "com/example/dalles/dalles/schema/Fill" sg_2 [(.ref a12), (.int (0 : Int32))]), (a12, oI "com/example/dalles/dalles/schema/Sequence" sg_1 [(.ref s13), (.ref s14)])] 6 28 67 #[.val (.int flags), .val (.int line), .val (.int x1), .val (.int x2), .val (.int x3), .val (.int b5), .val (.int b9), .val (.ref a12), .unset, .unset, .unset, .unset, .unset, .unset] [(.ref f15)] Q_law
      refine wp_astore #[.val (.int flags), .val (.int line), .val (.int x1), .val (.int x2), .val (.int x3), .val (.int b5), .val (.int b9), .val (.ref a12), .val (.ref f15), .unset, .unset, .unset, .unset, .unset] D_67 rfl rfl ?_
      refine wp_new sg_3 [(.null), (.null), (.null), (.null), (.int (0 : Int32)), (.int (0 : Int32)), (.null)] D_69 (hw _ (List.mem_of_getElem? (i := 42) rfl)) (hw _ (List.mem_of_getElem? (i := 43) rfl)) (hw _ (List.mem_of_getElem? (i := 44) rfl)) (laid_sg_3 l Z a0 hw) (by decide) dfl_sg_3 (by decide) (by decide) ?_
      intro a16
      show Wp (some none) l Z "com/example/dalles/dalles/schema/PostgreSqlColumnInheritDefaultPinLaw" "law" code maxLocals ret room_1 [(a16, oI "com/example/dalles/dalles/schema/PostgreSqlColumn" sg_3 [(.null), (.null), (.null), (.null), (.int (0 : Int32)), (.int (0 : Int32)), (.null)]), (f15, oI "com/example/dalles/dalles/schema/Fill" sg_2 [(.ref a12), (.int (0 : Int32))]), (a12, oI "com/example/dalles/dalles/schema/Sequence" sg_1 [(.ref s13), (.ref s14)])] 7 35 72 #[.val (.int flags), .val (.int line), .val (.int x1), .val (.int x2), .val (.int x3), .val (.int b5), .val (.int b9), .val (.ref a12), .val (.ref f15), .unset, .unset, .unset, .unset, .unset] [(.ref a16)] Q_law
      refine wp_dup D_72 rfl ?_
      refine wp_ldcS (n := 4) D_73 rfl (hw _ (List.mem_of_getElem? (i := 45) rfl)) wS (by decide) (by decide) (by decide) (by decide) ?_
      intro s17
      show Wp (some none) l Z "com/example/dalles/dalles/schema/PostgreSqlColumnInheritDefaultPinLaw" "law" code maxLocals ret room_1 [(a16, oI "com/example/dalles/dalles/schema/PostgreSqlColumn" sg_3 [(.null), (.null), (.null), (.null), (.int (0 : Int32)), (.int (0 : Int32)), (.null)]), (f15, oI "com/example/dalles/dalles/schema/Fill" sg_2 [(.ref a12), (.int (0 : Int32))]), (a12, oI "com/example/dalles/dalles/schema/Sequence" sg_1 [(.ref s13), (.ref s14)])] 9 43 75 #[.val (.int flags), .val (.int line), .val (.int x1), .val (.int x2), .val (.int x3), .val (.int b5), .val (.int b9), .val (.ref a12), .val (.ref f15), .unset, .unset, .unset, .unset, .unset] [(.ref s17), (.ref a16), (.ref a16)] Q_law
      refine wp_ldcS (n := 28) D_75 rfl (hw _ (List.mem_of_getElem? (i := 46) rfl)) wS (by decide) (by decide) (by decide) (by decide) ?_
      intro s18
      show Wp (some none) l Z "com/example/dalles/dalles/schema/PostgreSqlColumnInheritDefaultPinLaw" "law" code maxLocals ret room_1 [(a16, oI "com/example/dalles/dalles/schema/PostgreSqlColumn" sg_3 [(.null), (.null), (.null), (.null), (.int (0 : Int32)), (.int (0 : Int32)), (.null)]), (f15, oI "com/example/dalles/dalles/schema/Fill" sg_2 [(.ref a12), (.int (0 : Int32))]), (a12, oI "com/example/dalles/dalles/schema/Sequence" sg_1 [(.ref s13), (.ref s14)])] 11 75 77 #[.val (.int flags), .val (.int line), .val (.int x1), .val (.int x2), .val (.int x3), .val (.int b5), .val (.int b9), .val (.ref a12), .val (.ref f15), .unset, .unset, .unset, .unset, .unset] [(.ref s18), (.ref s17), (.ref a16), (.ref a16)] Q_law
      refine wp_iload_n D_77 rfl ?_
      refine wp_init (c_col l Z a0 hw a16 s17 s18 line aN aE [(f15, oI "com/example/dalles/dalles/schema/Fill" sg_2 [(.ref a12), (.int (0 : Int32))]), (a12, oI "com/example/dalles/dalles/schema/Sequence" sg_1 [(.ref s13), (.ref s14)])] S_N S_E) D_78 rfl (hw _ (List.mem_of_getElem? (i := 47) rfl)) (hw _ (List.mem_of_getElem? (i := 48) rfl)) (hw _ (List.mem_of_getElem? (i := 44) rfl)) (hw _ (List.mem_of_getElem? (i := 49) rfl)) (by decide) pd_7 rfl rfl rfl (Nat.le_of_ble_eq_true rfl) (Nat.le_of_ble_eq_true rfl) (Nat.le_of_ble_eq_true rfl) (Nat.le_of_ble_eq_true rfl) ?_
      rintro _ _ ⟨rfl, rfl⟩
      show Wp (some none) l Z "com/example/dalles/dalles/schema/PostgreSqlColumnInheritDefaultPinLaw" "law" code maxLocals ret room_1 [(a16, oI "com/example/dalles/dalles/schema/PostgreSqlColumn" sg_3 [(.ref aN), (.ref aE), (.ref s17), (.ref s18), (.int line), (.int (0 : Int32)), (.null)]), (f15, oI "com/example/dalles/dalles/schema/Fill" sg_2 [(.ref a12), (.int (0 : Int32))]), (a12, oI "com/example/dalles/dalles/schema/Sequence" sg_1 [(.ref s13), (.ref s14)])] 11 75 81 #[.val (.int flags), .val (.int line), .val (.int x1), .val (.int x2), .val (.int x3), .val (.int b5), .val (.int b9), .val (.ref a12), .val (.ref f15), .unset, .unset, .unset, .unset, .unset] [(.ref a16)] Q_law
      refine wp_astore #[.val (.int flags), .val (.int line), .val (.int x1), .val (.int x2), .val (.int x3), .val (.int b5), .val (.int b9), .val (.ref a12), .val (.ref f15), .val (.ref a16), .unset, .unset, .unset, .unset] D_81 rfl rfl ?_
      refine wp_new sg_3 [(.null), (.null), (.null), (.null), (.int (0 : Int32)), (.int (0 : Int32)), (.null)] D_83 (hw _ (List.mem_of_getElem? (i := 42) rfl)) (hw _ (List.mem_of_getElem? (i := 43) rfl)) (hw _ (List.mem_of_getElem? (i := 44) rfl)) (laid_sg_3 l Z a0 hw) (by decide) dfl_sg_3 (by decide) (by decide) ?_
      intro a19
      show Wp (some none) l Z "com/example/dalles/dalles/schema/PostgreSqlColumnInheritDefaultPinLaw" "law" code maxLocals ret room_1 [(a19, oI "com/example/dalles/dalles/schema/PostgreSqlColumn" sg_3 [(.null), (.null), (.null), (.null), (.int (0 : Int32)), (.int (0 : Int32)), (.null)]), (a16, oI "com/example/dalles/dalles/schema/PostgreSqlColumn" sg_3 [(.ref aN), (.ref aE), (.ref s17), (.ref s18), (.int line), (.int (0 : Int32)), (.null)]), (f15, oI "com/example/dalles/dalles/schema/Fill" sg_2 [(.ref a12), (.int (0 : Int32))]), (a12, oI "com/example/dalles/dalles/schema/Sequence" sg_1 [(.ref s13), (.ref s14)])] 12 82 86 #[.val (.int flags), .val (.int line), .val (.int x1), .val (.int x2), .val (.int x3), .val (.int b5), .val (.int b9), .val (.ref a12), .val (.ref f15), .val (.ref a16), .unset, .unset, .unset, .unset] [(.ref a19)] Q_law
      refine wp_dup D_86 rfl ?_
      refine wp_ldcS (n := 4) D_87 rfl (hw _ (List.mem_of_getElem? (i := 45) rfl)) wS (by decide) (by decide) (by decide) (by decide) ?_
      intro s20
      show Wp (some none) l Z "com/example/dalles/dalles/schema/PostgreSqlColumnInheritDefaultPinLaw" "law" code maxLocals ret room_1 [(a19, oI "com/example/dalles/dalles/schema/PostgreSqlColumn" sg_3 [(.null), (.null), (.null), (.null), (.int (0 : Int32)), (.int (0 : Int32)), (.null)]), (a16, oI "com/example/dalles/dalles/schema/PostgreSqlColumn" sg_3 [(.ref aN), (.ref aE), (.ref s17), (.ref s18), (.int line), (.int (0 : Int32)), (.null)]), (f15, oI "com/example/dalles/dalles/schema/Fill" sg_2 [(.ref a12), (.int (0 : Int32))]), (a12, oI "com/example/dalles/dalles/schema/Sequence" sg_1 [(.ref s13), (.ref s14)])] 14 90 89 #[.val (.int flags), .val (.int line), .val (.int x1), .val (.int x2), .val (.int x3), .val (.int b5), .val (.int b9), .val (.ref a12), .val (.ref f15), .val (.ref a16), .unset, .unset, .unset, .unset] [(.ref s20), (.ref a19), (.ref a19)] Q_law
      refine wp_ldcS (n := 28) D_89 rfl (hw _ (List.mem_of_getElem? (i := 46) rfl)) wS (by decide) (by decide) (by decide) (by decide) ?_
      intro s21
      show Wp (some none) l Z "com/example/dalles/dalles/schema/PostgreSqlColumnInheritDefaultPinLaw" "law" code maxLocals ret room_1 [(a19, oI "com/example/dalles/dalles/schema/PostgreSqlColumn" sg_3 [(.null), (.null), (.null), (.null), (.int (0 : Int32)), (.int (0 : Int32)), (.null)]), (a16, oI "com/example/dalles/dalles/schema/PostgreSqlColumn" sg_3 [(.ref aN), (.ref aE), (.ref s17), (.ref s18), (.int line), (.int (0 : Int32)), (.null)]), (f15, oI "com/example/dalles/dalles/schema/Fill" sg_2 [(.ref a12), (.int (0 : Int32))]), (a12, oI "com/example/dalles/dalles/schema/Sequence" sg_1 [(.ref s13), (.ref s14)])] 16 122 91 #[.val (.int flags), .val (.int line), .val (.int x1), .val (.int x2), .val (.int x3), .val (.int b5), .val (.int b9), .val (.ref a12), .val (.ref f15), .val (.ref a16), .unset, .unset, .unset, .unset] [(.ref s21), (.ref s20), (.ref a19), (.ref a19)] Q_law
      refine wp_iload_n D_91 rfl ?_
      refine wp_init (c_col l Z a0 hw a19 s20 s21 line aN aE [(a16, oI "com/example/dalles/dalles/schema/PostgreSqlColumn" sg_3 [(.ref aN), (.ref aE), (.ref s17), (.ref s18), (.int line), (.int (0 : Int32)), (.null)]), (f15, oI "com/example/dalles/dalles/schema/Fill" sg_2 [(.ref a12), (.int (0 : Int32))]), (a12, oI "com/example/dalles/dalles/schema/Sequence" sg_1 [(.ref s13), (.ref s14)])] S_N S_E) D_92 rfl (hw _ (List.mem_of_getElem? (i := 47) rfl)) (hw _ (List.mem_of_getElem? (i := 48) rfl)) (hw _ (List.mem_of_getElem? (i := 44) rfl)) (hw _ (List.mem_of_getElem? (i := 49) rfl)) (by decide) pd_7 rfl rfl rfl (Nat.le_of_ble_eq_true rfl) (Nat.le_of_ble_eq_true rfl) (Nat.le_of_ble_eq_true rfl) (Nat.le_of_ble_eq_true rfl) ?_
      rintro _ _ ⟨rfl, rfl⟩
      show Wp (some none) l Z "com/example/dalles/dalles/schema/PostgreSqlColumnInheritDefaultPinLaw" "law" code maxLocals ret room_1 [(a19, oI "com/example/dalles/dalles/schema/PostgreSqlColumn" sg_3 [(.ref aN), (.ref aE), (.ref s20), (.ref s21), (.int line), (.int (0 : Int32)), (.null)]), (a16, oI "com/example/dalles/dalles/schema/PostgreSqlColumn" sg_3 [(.ref aN), (.ref aE), (.ref s17), (.ref s18), (.int line), (.int (0 : Int32)), (.null)]), (f15, oI "com/example/dalles/dalles/schema/Fill" sg_2 [(.ref a12), (.int (0 : Int32))]), (a12, oI "com/example/dalles/dalles/schema/Sequence" sg_1 [(.ref s13), (.ref s14)])] 16 122 95 #[.val (.int flags), .val (.int line), .val (.int x1), .val (.int x2), .val (.int x3), .val (.int b5), .val (.int b9), .val (.ref a12), .val (.ref f15), .val (.ref a16), .unset, .unset, .unset, .unset] [(.ref a19)] Q_law
      refine wp_astore #[.val (.int flags), .val (.int line), .val (.int x1), .val (.int x2), .val (.int x3), .val (.int b5), .val (.int b9), .val (.ref a12), .val (.ref f15), .val (.ref a16), .val (.ref a19), .unset, .unset, .unset] D_95 rfl rfl ?_
      refine wp_new sg_3 [(.null), (.null), (.null), (.null), (.int (0 : Int32)), (.int (0 : Int32)), (.null)] D_97 (hw _ (List.mem_of_getElem? (i := 42) rfl)) (hw _ (List.mem_of_getElem? (i := 43) rfl)) (hw _ (List.mem_of_getElem? (i := 44) rfl)) (laid_sg_3 l Z a0 hw) (by decide) dfl_sg_3 (by decide) (by decide) ?_
      intro a22
      show Wp (some none) l Z "com/example/dalles/dalles/schema/PostgreSqlColumnInheritDefaultPinLaw" "law" code maxLocals ret room_1 [(a22, oI "com/example/dalles/dalles/schema/PostgreSqlColumn" sg_3 [(.null), (.null), (.null), (.null), (.int (0 : Int32)), (.int (0 : Int32)), (.null)]), (a19, oI "com/example/dalles/dalles/schema/PostgreSqlColumn" sg_3 [(.ref aN), (.ref aE), (.ref s20), (.ref s21), (.int line), (.int (0 : Int32)), (.null)]), (a16, oI "com/example/dalles/dalles/schema/PostgreSqlColumn" sg_3 [(.ref aN), (.ref aE), (.ref s17), (.ref s18), (.int line), (.int (0 : Int32)), (.null)]), (f15, oI "com/example/dalles/dalles/schema/Fill" sg_2 [(.ref a12), (.int (0 : Int32))]), (a12, oI "com/example/dalles/dalles/schema/Sequence" sg_1 [(.ref s13), (.ref s14)])] 17 129 100 #[.val (.int flags), .val (.int line), .val (.int x1), .val (.int x2), .val (.int x3), .val (.int b5), .val (.int b9), .val (.ref a12), .val (.ref f15), .val (.ref a16), .val (.ref a19), .unset, .unset, .unset] [(.ref a22)] Q_law
      refine wp_dup D_100 rfl ?_
      refine wp_ldcS (n := 4) D_101 rfl (hw _ (List.mem_of_getElem? (i := 45) rfl)) wS (by decide) (by decide) (by decide) (by decide) ?_
      intro s23
      show Wp (some none) l Z "com/example/dalles/dalles/schema/PostgreSqlColumnInheritDefaultPinLaw" "law" code maxLocals ret room_1 [(a22, oI "com/example/dalles/dalles/schema/PostgreSqlColumn" sg_3 [(.null), (.null), (.null), (.null), (.int (0 : Int32)), (.int (0 : Int32)), (.null)]), (a19, oI "com/example/dalles/dalles/schema/PostgreSqlColumn" sg_3 [(.ref aN), (.ref aE), (.ref s20), (.ref s21), (.int line), (.int (0 : Int32)), (.null)]), (a16, oI "com/example/dalles/dalles/schema/PostgreSqlColumn" sg_3 [(.ref aN), (.ref aE), (.ref s17), (.ref s18), (.int line), (.int (0 : Int32)), (.null)]), (f15, oI "com/example/dalles/dalles/schema/Fill" sg_2 [(.ref a12), (.int (0 : Int32))]), (a12, oI "com/example/dalles/dalles/schema/Sequence" sg_1 [(.ref s13), (.ref s14)])] 19 137 103 #[.val (.int flags), .val (.int line), .val (.int x1), .val (.int x2), .val (.int x3), .val (.int b5), .val (.int b9), .val (.ref a12), .val (.ref f15), .val (.ref a16), .val (.ref a19), .unset, .unset, .unset] [(.ref s23), (.ref a22), (.ref a22)] Q_law
      refine wp_ldcS (n := 28) D_103 rfl (hw _ (List.mem_of_getElem? (i := 46) rfl)) wS (by decide) (by decide) (by decide) (by decide) ?_
      intro s24
      show Wp (some none) l Z "com/example/dalles/dalles/schema/PostgreSqlColumnInheritDefaultPinLaw" "law" code maxLocals ret room_1 [(a22, oI "com/example/dalles/dalles/schema/PostgreSqlColumn" sg_3 [(.null), (.null), (.null), (.null), (.int (0 : Int32)), (.int (0 : Int32)), (.null)]), (a19, oI "com/example/dalles/dalles/schema/PostgreSqlColumn" sg_3 [(.ref aN), (.ref aE), (.ref s20), (.ref s21), (.int line), (.int (0 : Int32)), (.null)]), (a16, oI "com/example/dalles/dalles/schema/PostgreSqlColumn" sg_3 [(.ref aN), (.ref aE), (.ref s17), (.ref s18), (.int line), (.int (0 : Int32)), (.null)]), (f15, oI "com/example/dalles/dalles/schema/Fill" sg_2 [(.ref a12), (.int (0 : Int32))]), (a12, oI "com/example/dalles/dalles/schema/Sequence" sg_1 [(.ref s13), (.ref s14)])] 21 169 105 #[.val (.int flags), .val (.int line), .val (.int x1), .val (.int x2), .val (.int x3), .val (.int b5), .val (.int b9), .val (.ref a12), .val (.ref f15), .val (.ref a16), .val (.ref a19), .unset, .unset, .unset] [(.ref s24), (.ref s23), (.ref a22), (.ref a22)] Q_law
      refine wp_iload_n D_105 rfl ?_
      refine wp_init (c_col l Z a0 hw a22 s23 s24 line aN aE [(a19, oI "com/example/dalles/dalles/schema/PostgreSqlColumn" sg_3 [(.ref aN), (.ref aE), (.ref s20), (.ref s21), (.int line), (.int (0 : Int32)), (.null)]), (a16, oI "com/example/dalles/dalles/schema/PostgreSqlColumn" sg_3 [(.ref aN), (.ref aE), (.ref s17), (.ref s18), (.int line), (.int (0 : Int32)), (.null)]), (f15, oI "com/example/dalles/dalles/schema/Fill" sg_2 [(.ref a12), (.int (0 : Int32))]), (a12, oI "com/example/dalles/dalles/schema/Sequence" sg_1 [(.ref s13), (.ref s14)])] S_N S_E) D_106 rfl (hw _ (List.mem_of_getElem? (i := 47) rfl)) (hw _ (List.mem_of_getElem? (i := 48) rfl)) (hw _ (List.mem_of_getElem? (i := 44) rfl)) (hw _ (List.mem_of_getElem? (i := 49) rfl)) (by decide) pd_7 rfl rfl rfl (Nat.le_of_ble_eq_true rfl) (Nat.le_of_ble_eq_true rfl) (Nat.le_of_ble_eq_true rfl) (Nat.le_of_ble_eq_true rfl) ?_
      rintro _ _ ⟨rfl, rfl⟩
      show Wp (some none) l Z "com/example/dalles/dalles/schema/PostgreSqlColumnInheritDefaultPinLaw" "law" code maxLocals ret room_1 [(a22, oI "com/example/dalles/dalles/schema/PostgreSqlColumn" sg_3 [(.ref aN), (.ref aE), (.ref s23), (.ref s24), (.int line), (.int (0 : Int32)), (.null)]), (a19, oI "com/example/dalles/dalles/schema/PostgreSqlColumn" sg_3 [(.ref aN), (.ref aE), (.ref s20), (.ref s21), (.int line), (.int (0 : Int32)), (.null)]), (a16, oI "com/example/dalles/dalles/schema/PostgreSqlColumn" sg_3 [(.ref aN), (.ref aE), (.ref s17), (.ref s18), (.int line), (.int (0 : Int32)), (.null)]), (f15, oI "com/example/dalles/dalles/schema/Fill" sg_2 [(.ref a12), (.int (0 : Int32))]), (a12, oI "com/example/dalles/dalles/schema/Sequence" sg_1 [(.ref s13), (.ref s14)])] 21 169 109 #[.val (.int flags), .val (.int line), .val (.int x1), .val (.int x2), .val (.int x3), .val (.int b5), .val (.int b9), .val (.ref a12), .val (.ref f15), .val (.ref a16), .val (.ref a19), .unset, .unset, .unset] [(.ref a22)] Q_law
      refine wp_astore #[.val (.int flags), .val (.int line), .val (.int x1), .val (.int x2), .val (.int x3), .val (.int b5), .val (.int b9), .val (.ref a12), .val (.ref f15), .val (.ref a16), .val (.ref a19), .val (.ref a22), .unset, .unset] D_109 rfl rfl ?_
      refine wp_iload_n D_111 rfl ?_
      have J29 : ∀ (b26 : Addr) (b27 : Int32), ((x1 = (0 : Int32) ∧ b26 = aN ∧ b27 = (0 : Int32)) ∨ (¬ x1 = (0 : Int32) ∧ b26 = (pk aN aR x1 f15) ∧ b27 = (1 : Int32))) → Wp (some none) l Z "com/example/dalles/dalles/schema/PostgreSqlColumnInheritDefaultPinLaw" "law" code maxLocals ret room_1 [(a22, oI "com/example/dalles/dalles/schema/PostgreSqlColumn" sg_3 [(.ref aN), (.ref aE), (.ref s23), (.ref s24), (.int line), (.int (0 : Int32)), (.null)]), (a19, oI "com/example/dalles/dalles/schema/PostgreSqlColumn" sg_3 [(.ref aN), (.ref aE), (.ref s20), (.ref s21), (.int line), (.int (0 : Int32)), (.null)]), (a16, oI "com/example/dalles/dalles/schema/PostgreSqlColumn" sg_3 [(.ref b26), (.ref aE), (.ref s17), (.ref s18), (.int line), (.int b27), (.null)]), (f15, oI "com/example/dalles/dalles/schema/Fill" sg_2 [(.ref a12), (.int (0 : Int32))]), (a12, oI "com/example/dalles/dalles/schema/Sequence" sg_1 [(.ref s13), (.ref s14)])] 21 169 126 #[.val (.int flags), .val (.int line), .val (.int x1), .val (.int x2), .val (.int x3), .val (.int b5), .val (.int b9), .val (.ref a12), .val (.ref f15), .val (.ref a16), .val (.ref a19), .val (.ref a22), .unset, .unset] [] Q_law := by
        intro b26 b27 hj28
        refine wp_iload_n D_126 rfl ?_
        have J34 : ∀ (b31 : Addr) (b32 : Int32), ((x2 = (0 : Int32) ∧ b31 = aN ∧ b32 = (0 : Int32)) ∨ (¬ x2 = (0 : Int32) ∧ b31 = (pk aN aR x2 f15) ∧ b32 = (1 : Int32))) → Wp (some none) l Z "com/example/dalles/dalles/schema/PostgreSqlColumnInheritDefaultPinLaw" "law" code maxLocals ret room_1 [(a22, oI "com/example/dalles/dalles/schema/PostgreSqlColumn" sg_3 [(.ref aN), (.ref aE), (.ref s23), (.ref s24), (.int line), (.int (0 : Int32)), (.null)]), (a19, oI "com/example/dalles/dalles/schema/PostgreSqlColumn" sg_3 [(.ref b31), (.ref aE), (.ref s20), (.ref s21), (.int line), (.int b32), (.null)]), (a16, oI "com/example/dalles/dalles/schema/PostgreSqlColumn" sg_3 [(.ref b26), (.ref aE), (.ref s17), (.ref s18), (.int line), (.int b27), (.null)]), (f15, oI "com/example/dalles/dalles/schema/Fill" sg_2 [(.ref a12), (.int (0 : Int32))]), (a12, oI "com/example/dalles/dalles/schema/Sequence" sg_1 [(.ref s13), (.ref s14)])] 21 169 141 #[.val (.int flags), .val (.int line), .val (.int x1), .val (.int x2), .val (.int x3), .val (.int b5), .val (.int b9), .val (.ref a12), .val (.ref f15), .val (.ref a16), .val (.ref a19), .val (.ref a22), .unset, .unset] [] Q_law := by
          intro b31 b32 hj33
          refine wp_iload D_141 rfl ?_
          have J39 : ∀ (b36 : Addr) (b37 : Int32), ((x3 = (0 : Int32) ∧ b36 = aN ∧ b37 = (0 : Int32)) ∨ (¬ x3 = (0 : Int32) ∧ b36 = (pk aN aR x3 f15) ∧ b37 = (1 : Int32))) → Wp (some none) l Z "com/example/dalles/dalles/schema/PostgreSqlColumnInheritDefaultPinLaw" "law" code maxLocals ret room_1 [(a22, oI "com/example/dalles/dalles/schema/PostgreSqlColumn" sg_3 [(.ref b36), (.ref aE), (.ref s23), (.ref s24), (.int line), (.int b37), (.null)]), (a19, oI "com/example/dalles/dalles/schema/PostgreSqlColumn" sg_3 [(.ref b31), (.ref aE), (.ref s20), (.ref s21), (.int line), (.int b32), (.null)]), (a16, oI "com/example/dalles/dalles/schema/PostgreSqlColumn" sg_3 [(.ref b26), (.ref aE), (.ref s17), (.ref s18), (.int line), (.int b27), (.null)]), (f15, oI "com/example/dalles/dalles/schema/Fill" sg_2 [(.ref a12), (.int (0 : Int32))]), (a12, oI "com/example/dalles/dalles/schema/Sequence" sg_1 [(.ref s13), (.ref s14)])] 21 169 158 #[.val (.int flags), .val (.int line), .val (.int x1), .val (.int x2), .val (.int x3), .val (.int b5), .val (.int b9), .val (.ref a12), .val (.ref f15), .val (.ref a16), .val (.ref a19), .val (.ref a22), .unset, .unset] [] Q_law := by
            intro b36 b37 hj38
            refine wp_iload D_158 rfl ?_
            have J43 : ∀ (b41 : Value), ((b5 = (0 : Int32) ∧ b41 = (.null)) ∨ (¬ b5 = (0 : Int32) ∧ b41 = (.ref a12))) → Wp (some none) l Z "com/example/dalles/dalles/schema/PostgreSqlColumnInheritDefaultPinLaw" "law" code maxLocals ret room_1 [(a22, oI "com/example/dalles/dalles/schema/PostgreSqlColumn" sg_3 [(.ref b36), (.ref aE), (.ref s23), (.ref s24), (.int line), (.int b37), (.null)]), (a19, oI "com/example/dalles/dalles/schema/PostgreSqlColumn" sg_3 [(.ref b31), (.ref aE), (.ref s20), (.ref s21), (.int line), (.int b32), b41]), (a16, oI "com/example/dalles/dalles/schema/PostgreSqlColumn" sg_3 [(.ref b26), (.ref aE), (.ref s17), (.ref s18), (.int line), (.int b27), (.null)]), (f15, oI "com/example/dalles/dalles/schema/Fill" sg_2 [(.ref a12), (.int (0 : Int32))]), (a12, oI "com/example/dalles/dalles/schema/Sequence" sg_1 [(.ref s13), (.ref s14)])] 21 169 170 #[.val (.int flags), .val (.int line), .val (.int x1), .val (.int x2), .val (.int x3), .val (.int b5), .val (.int b9), .val (.ref a12), .val (.ref f15), .val (.ref a16), .val (.ref a19), .val (.ref a22), .unset, .unset] [] Q_law := by
              intro b41 hj42
              refine wp_iload_n D_170 rfl ?_
              have J47 : ∀ (b45 : Int32), ((x1 = (0 : Int32) ∧ b45 = (0 : Int32)) ∨ (¬ x1 = (0 : Int32) ∧ b45 = (1 : Int32))) → Wp (some none) l Z "com/example/dalles/dalles/schema/PostgreSqlColumnInheritDefaultPinLaw" "law" code maxLocals ret room_1 [(a22, oI "com/example/dalles/dalles/schema/PostgreSqlColumn" sg_3 [(.ref b36), (.ref aE), (.ref s23), (.ref s24), (.int line), (.int b37), (.null)]), (a19, oI "com/example/dalles/dalles/schema/PostgreSqlColumn" sg_3 [(.ref b31), (.ref aE), (.ref s20), (.ref s21), (.int line), (.int b32), b41]), (a16, oI "com/example/dalles/dalles/schema/PostgreSqlColumn" sg_3 [(.ref b26), (.ref aE), (.ref s17), (.ref s18), (.int line), (.int b27), (.null)]), (f15, oI "com/example/dalles/dalles/schema/Fill" sg_2 [(.ref a12), (.int (0 : Int32))]), (a12, oI "com/example/dalles/dalles/schema/Sequence" sg_1 [(.ref s13), (.ref s14)])] 21 169 179 #[.val (.int flags), .val (.int line), .val (.int x1), .val (.int x2), .val (.int x3), .val (.int b5), .val (.int b9), .val (.ref a12), .val (.ref f15), .val (.ref a16), .val (.ref a19), .val (.ref a22), .unset, .unset] [(.int b45)] Q_law := by
                intro b45 hj46
                rw [show b45 = b27 from by rcases hj28 with ⟨q1, q2, q3⟩ | ⟨q1, q2, q3⟩ <;> rcases hj46 with ⟨r1, r2⟩ | ⟨r1, r2⟩ <;> simp_all]
                refine wp_istore #[.val (.int flags), .val (.int line), .val (.int x1), .val (.int x2), .val (.int x3), .val (.int b5), .val (.int b9), .val (.ref a12), .val (.ref f15), .val (.ref a16), .val (.ref a19), .val (.ref a22), .val (.int b27), .unset] D_179 rfl ?_
                refine wp_iload D_181 rfl ?_
                have J51 : ∀ (b49 : Addr), ((b27 = (0 : Int32) ∧ b49 = aN) ∨ (¬ b27 = (0 : Int32) ∧ b49 = (pk aN aR x1 f15))) → Wp (some none) l Z "com/example/dalles/dalles/schema/PostgreSqlColumnInheritDefaultPinLaw" "law" code maxLocals ret room_1 [(a22, oI "com/example/dalles/dalles/schema/PostgreSqlColumn" sg_3 [(.ref b36), (.ref aE), (.ref s23), (.ref s24), (.int line), (.int b37), (.null)]), (a19, oI "com/example/dalles/dalles/schema/PostgreSqlColumn" sg_3 [(.ref b31), (.ref aE), (.ref s20), (.ref s21), (.int line), (.int b32), b41]), (a16, oI "com/example/dalles/dalles/schema/PostgreSqlColumn" sg_3 [(.ref b26), (.ref aE), (.ref s17), (.ref s18), (.int line), (.int b27), (.null)]), (f15, oI "com/example/dalles/dalles/schema/Fill" sg_2 [(.ref a12), (.int (0 : Int32))]), (a12, oI "com/example/dalles/dalles/schema/Sequence" sg_1 [(.ref s13), (.ref s14)])] 21 169 198 #[.val (.int flags), .val (.int line), .val (.int x1), .val (.int x2), .val (.int x3), .val (.int b5), .val (.int b9), .val (.ref a12), .val (.ref f15), .val (.ref a16), .val (.ref a19), .val (.ref a22), .val (.int b27), .unset] [(.ref b49)] Q_law := by
                  intro b49 hj50
                  rw [show b49 = b26 from by rcases hj28 with ⟨q1, q2, q3⟩ | ⟨q1, q2, q3⟩ <;> rcases hj50 with ⟨r1, r2⟩ | ⟨r1, r2⟩ <;> simp_all]
                  refine wp_astore #[.val (.int flags), .val (.int line), .val (.int x1), .val (.int x2), .val (.int x3), .val (.int b5), .val (.int b9), .val (.ref a12), .val (.ref f15), .val (.ref a16), .val (.ref a19), .val (.ref a22), .val (.int b27), .val (.ref b26)] D_198 rfl rfl ?_
                  refine wp_aload D_200 rfl rfl ?_
                  refine wp_aload D_202 rfl rfl ?_
                  refine Wp.pick [2, 1, 0, 3, 4] (by decide) ?_
                  show Wp (some none) l Z "com/example/dalles/dalles/schema/PostgreSqlColumnInheritDefaultPinLaw" "law" code maxLocals ret room_1 [(a16, oI "com/example/dalles/dalles/schema/PostgreSqlColumn" sg_3 [(.ref b26), (.ref aE), (.ref s17), (.ref s18), (.int line), (.int b27), (.null)]), (a19, oI "com/example/dalles/dalles/schema/PostgreSqlColumn" sg_3 [(.ref b31), (.ref aE), (.ref s20), (.ref s21), (.int line), (.int b32), b41]), (a22, oI "com/example/dalles/dalles/schema/PostgreSqlColumn" sg_3 [(.ref b36), (.ref aE), (.ref s23), (.ref s24), (.int line), (.int b37), (.null)]), (f15, oI "com/example/dalles/dalles/schema/Fill" sg_2 [(.ref a12), (.int (0 : Int32))]), (a12, oI "com/example/dalles/dalles/schema/Sequence" sg_1 [(.ref s13), (.ref s14)])] 21 169 204 #[.val (.int flags), .val (.int line), .val (.int x1), .val (.int x2), .val (.int x3), .val (.int b5), .val (.int b9), .val (.ref a12), .val (.ref f15), .val (.ref a16), .val (.ref a19), .val (.ref a22), .val (.int b27), .val (.ref b26)] [(.ref a19), (.ref a16)] Q_law
                  refine wp_virtual (c_inh l Z a0 hw a16 a19 b26 s17 s18 line b27 (.null) b31 s20 s21 line b32 b41 aE [(a22, oI "com/example/dalles/dalles/schema/PostgreSqlColumn" sg_3 [(.ref b36), (.ref aE), (.ref s23), (.ref s24), (.int line), (.int b37), (.null)]), (f15, oI "com/example/dalles/dalles/schema/Fill" sg_2 [(.ref a12), (.int (0 : Int32))]), (a12, oI "com/example/dalles/dalles/schema/Sequence" sg_1 [(.ref s13), (.ref s14)])]) (exa_new (i := 0) rfl) D_204 (hw _ (List.mem_of_getElem? (i := 69) rfl)) (hw _ (List.mem_of_getElem? (i := 70) rfl)) (hw _ (List.mem_of_getElem? (i := 72) rfl)) (hw _ (List.mem_of_getElem? (i := 72) rfl)) (hw _ (List.mem_of_getElem? (i := 71) rfl)) (hw _ (List.mem_of_getElem? (i := 44) rfl)) (hw _ (List.mem_of_getElem? (i := 73) rfl)) (by decide) pd_8 rfl rfl rfl (Nat.le_of_ble_eq_true rfl) (Nat.le_of_ble_eq_true rfl) (Nat.le_of_ble_eq_true rfl) (Nat.le_of_ble_eq_true rfl) ?_
                  rintro _ _ ⟨rfl, rfl⟩
                  show Wp (some none) l Z "com/example/dalles/dalles/schema/PostgreSqlColumnInheritDefaultPinLaw" "law" code maxLocals ret room_1 [(a16, oI "com/example/dalles/dalles/schema/PostgreSqlColumn" sg_3 [(.ref (fd b27 b32 b26 b31)), (.ref aE), (.ref s17), (.ref s18), (.int line), (.int (fh b27 b32)), (.null)]), (a19, oI "com/example/dalles/dalles/schema/PostgreSqlColumn" sg_3 [(.ref b31), (.ref aE), (.ref s20), (.ref s21), (.int line), (.int b32), b41]), (a22, oI "com/example/dalles/dalles/schema/PostgreSqlColumn" sg_3 [(.ref b36), (.ref aE), (.ref s23), (.ref s24), (.int line), (.int b37), (.null)]), (f15, oI "com/example/dalles/dalles/schema/Fill" sg_2 [(.ref a12), (.int (0 : Int32))]), (a12, oI "com/example/dalles/dalles/schema/Sequence" sg_1 [(.ref s13), (.ref s14)])] 21 169 207 #[.val (.int flags), .val (.int line), .val (.int x1), .val (.int x2), .val (.int x3), .val (.int b5), .val (.int b9), .val (.ref a12), .val (.ref f15), .val (.ref a16), .val (.ref a19), .val (.ref a22), .val (.int b27), .val (.ref b26)] [] Q_law
                  refine wp_iload D_207 rfl ?_
                  have J56 : ∀ (b53 : Int32) (b54 : Addr), ((¬ b27 = (0 : Int32) ∧ b53 = b27 ∧ b54 = b26) ∨ (b27 = (0 : Int32) ∧ x2 = (0 : Int32) ∧ b53 = b27 ∧ b54 = b26) ∨ (b27 = (0 : Int32) ∧ ¬ x2 = (0 : Int32) ∧ b53 = (1 : Int32) ∧ b54 = (pk aN aR x2 f15))) → Wp (some none) l Z "com/example/dalles/dalles/schema/PostgreSqlColumnInheritDefaultPinLaw" "law" code maxLocals ret room_1 [(a16, oI "com/example/dalles/dalles/schema/PostgreSqlColumn" sg_3 [(.ref (fd b27 b32 b26 b31)), (.ref aE), (.ref s17), (.ref s18), (.int line), (.int (fh b27 b32)), (.null)]), (a19, oI "com/example/dalles/dalles/schema/PostgreSqlColumn" sg_3 [(.ref b31), (.ref aE), (.ref s20), (.ref s21), (.int line), (.int b32), b41]), (a22, oI "com/example/dalles/dalles/schema/PostgreSqlColumn" sg_3 [(.ref b36), (.ref aE), (.ref s23), (.ref s24), (.int line), (.int b37), (.null)]), (f15, oI "com/example/dalles/dalles/schema/Fill" sg_2 [(.ref a12), (.int (0 : Int32))]), (a12, oI "com/example/dalles/dalles/schema/Sequence" sg_1 [(.ref s13), (.ref s14)])] 21 169 227 #[.val (.int flags), .val (.int line), .val (.int x1), .val (.int x2), .val (.int x3), .val (.int b5), .val (.int b9), .val (.ref a12), .val (.ref f15), .val (.ref a16), .val (.ref a19), .val (.ref a22), .val (.int b53), .val (.ref b54)] [] Q_law := by
                    intro b53 b54 hj55
                    rw [show b53 = (fh b27 b32) from by rcases hj33 with ⟨q1, q2, q3⟩ | ⟨q1, q2, q3⟩ <;> rcases hj55 with ⟨r1, r2⟩ | ⟨r1, r2, r3, r4⟩ | ⟨r1, r2, r3⟩ <;> simp_all [fh]]
                    rw [show b54 = (fd b27 b32 b26 b31) from by rcases hj33 with ⟨q1, q2, q3⟩ | ⟨q1, q2, q3⟩ <;> rcases hj55 with ⟨r1, r2⟩ | ⟨r1, r2, r3, r4⟩ | ⟨r1, r2, r3⟩ <;> simp_all [fd]]
                    refine wp_iload D_227 rfl ?_
                    refine wp_if_eq D_229 (pc'' := 261) ⟨by decide, by decide⟩ (fun h57 => ?_) (fun h57 => ?_)
                    · skip
                      refine wp_aload D_261 rfl rfl ?_
                      refine wp_virtual (c_get l Z a0 hw a16 (fd b27 b32 b26 b31) s17 s18 line (fh b27 b32) aE [(a19, oI "com/example/dalles/dalles/schema/PostgreSqlColumn" sg_3 [(.ref b31), (.ref aE), (.ref s20), (.ref s21), (.int line), (.int b32), b41]), (a22, oI "com/example/dalles/dalles/schema/PostgreSqlColumn" sg_3 [(.ref b36), (.ref aE), (.ref s23), (.ref s24), (.int line), (.int b37), (.null)]), (f15, oI "com/example/dalles/dalles/schema/Fill" sg_2 [(.ref a12), (.int (0 : Int32))]), (a12, oI "com/example/dalles/dalles/schema/Sequence" sg_1 [(.ref s13), (.ref s14)])]) (exa_new (i := 0) rfl) D_263 (hw _ (List.mem_of_getElem? (i := 76) rfl)) (hw _ (List.mem_of_getElem? (i := 77) rfl)) (hw _ (List.mem_of_getElem? (i := 79) rfl)) (hw _ (List.mem_of_getElem? (i := 79) rfl)) (hw _ (List.mem_of_getElem? (i := 78) rfl)) (hw _ (List.mem_of_getElem? (i := 44) rfl)) (hw _ (List.mem_of_getElem? (i := 80) rfl)) (by decide) pd_9 rfl rfl rfl (Nat.le_of_ble_eq_true rfl) (Nat.le_of_ble_eq_true rfl) (Nat.le_of_ble_eq_true rfl) (Nat.le_of_ble_eq_true rfl) ?_
                      rintro _ _ ⟨rfl, rfl⟩
                      show Wp (some none) l Z "com/example/dalles/dalles/schema/PostgreSqlColumnInheritDefaultPinLaw" "law" code maxLocals ret room_1 [(a16, oI "com/example/dalles/dalles/schema/PostgreSqlColumn" sg_3 [(.ref (fd b27 b32 b26 b31)), (.ref aE), (.ref s17), (.ref s18), (.int line), (.int (fh b27 b32)), (.null)]), (a19, oI "com/example/dalles/dalles/schema/PostgreSqlColumn" sg_3 [(.ref b31), (.ref aE), (.ref s20), (.ref s21), (.int line), (.int b32), b41]), (a22, oI "com/example/dalles/dalles/schema/PostgreSqlColumn" sg_3 [(.ref b36), (.ref aE), (.ref s23), (.ref s24), (.int line), (.int b37), (.null)]), (f15, oI "com/example/dalles/dalles/schema/Fill" sg_2 [(.ref a12), (.int (0 : Int32))]), (a12, oI "com/example/dalles/dalles/schema/Sequence" sg_1 [(.ref s13), (.ref s14)])] 21 169 266 #[.val (.int flags), .val (.int line), .val (.int x1), .val (.int x2), .val (.int x3), .val (.int b5), .val (.int b9), .val (.ref a12), .val (.ref f15), .val (.ref a16), .val (.ref a19), .val (.ref a22), .val (.int (fh b27 b32)), .val (.ref (fd b27 b32 b26 b31))] [(.ref (fd b27 b32 b26 b31))] Q_law
                      refine wp_aload D_266 rfl rfl ?_
                      refine wp_acmp_ne D_268 (pc'' := 275) ⟨by decide, by decide⟩ rfl rfl (fun h58 => by exact absurd rfl h58) (fun h58 => ?_)
                      refine wp_iconst 1 D_271 (by decide) ?_
                      refine wp_goto D_272 (pc'' := 276) ⟨by decide, by decide⟩ ?_
                      refine wp_ireturnN D_276 rfl (by simp) (by decide) (by decide) ?_
                      exact rfl
                    · skip
                      refine wp_aload D_232 rfl rfl ?_
                      refine wp_aload D_234 rfl rfl ?_
                      refine Wp.pick [0, 2, 1, 3, 4] (by decide) ?_
                      show Wp (some none) l Z "com/example/dalles/dalles/schema/PostgreSqlColumnInheritDefaultPinLaw" "law" code maxLocals ret room_1 [(a16, oI "com/example/dalles/dalles/schema/PostgreSqlColumn" sg_3 [(.ref (fd b27 b32 b26 b31)), (.ref aE), (.ref s17), (.ref s18), (.int line), (.int (fh b27 b32)), (.null)]), (a22, oI "com/example/dalles/dalles/schema/PostgreSqlColumn" sg_3 [(.ref b36), (.ref aE), (.ref s23), (.ref s24), (.int line), (.int b37), (.null)]), (a19, oI "com/example/dalles/dalles/schema/PostgreSqlColumn" sg_3 [(.ref b31), (.ref aE), (.ref s20), (.ref s21), (.int line), (.int b32), b41]), (f15, oI "com/example/dalles/dalles/schema/Fill" sg_2 [(.ref a12), (.int (0 : Int32))]), (a12, oI "com/example/dalles/dalles/schema/Sequence" sg_1 [(.ref s13), (.ref s14)])] 21 169 236 #[.val (.int flags), .val (.int line), .val (.int x1), .val (.int x2), .val (.int x3), .val (.int b5), .val (.int b9), .val (.ref a12), .val (.ref f15), .val (.ref a16), .val (.ref a19), .val (.ref a22), .val (.int (fh b27 b32)), .val (.ref (fd b27 b32 b26 b31))] [(.ref a22), (.ref a16)] Q_law
                      refine wp_virtual (c_inh l Z a0 hw a16 a22 (fd b27 b32 b26 b31) s17 s18 line (fh b27 b32) (.null) b36 s23 s24 line b37 (.null) aE [(a19, oI "com/example/dalles/dalles/schema/PostgreSqlColumn" sg_3 [(.ref b31), (.ref aE), (.ref s20), (.ref s21), (.int line), (.int b32), b41]), (f15, oI "com/example/dalles/dalles/schema/Fill" sg_2 [(.ref a12), (.int (0 : Int32))]), (a12, oI "com/example/dalles/dalles/schema/Sequence" sg_1 [(.ref s13), (.ref s14)])]) (exa_new (i := 0) rfl) D_236 (hw _ (List.mem_of_getElem? (i := 69) rfl)) (hw _ (List.mem_of_getElem? (i := 70) rfl)) (hw _ (List.mem_of_getElem? (i := 72) rfl)) (hw _ (List.mem_of_getElem? (i := 72) rfl)) (hw _ (List.mem_of_getElem? (i := 71) rfl)) (hw _ (List.mem_of_getElem? (i := 44) rfl)) (hw _ (List.mem_of_getElem? (i := 73) rfl)) (by decide) pd_8 rfl rfl rfl (Nat.le_of_ble_eq_true rfl) (Nat.le_of_ble_eq_true rfl) (Nat.le_of_ble_eq_true rfl) (Nat.le_of_ble_eq_true rfl) ?_
                      rintro _ _ ⟨rfl, rfl⟩
                      show Wp (some none) l Z "com/example/dalles/dalles/schema/PostgreSqlColumnInheritDefaultPinLaw" "law" code maxLocals ret room_1 [(a16, oI "com/example/dalles/dalles/schema/PostgreSqlColumn" sg_3 [(.ref (fd (fh b27 b32) b37 (fd b27 b32 b26 b31) b36)), (.ref aE), (.ref s17), (.ref s18), (.int line), (.int (fh (fh b27 b32) b37)), (.null)]), (a22, oI "com/example/dalles/dalles/schema/PostgreSqlColumn" sg_3 [(.ref b36), (.ref aE), (.ref s23), (.ref s24), (.int line), (.int b37), (.null)]), (a19, oI "com/example/dalles/dalles/schema/PostgreSqlColumn" sg_3 [(.ref b31), (.ref aE), (.ref s20), (.ref s21), (.int line), (.int b32), b41]), (f15, oI "com/example/dalles/dalles/schema/Fill" sg_2 [(.ref a12), (.int (0 : Int32))]), (a12, oI "com/example/dalles/dalles/schema/Sequence" sg_1 [(.ref s13), (.ref s14)])] 21 169 239 #[.val (.int flags), .val (.int line), .val (.int x1), .val (.int x2), .val (.int x3), .val (.int b5), .val (.int b9), .val (.ref a12), .val (.ref f15), .val (.ref a16), .val (.ref a19), .val (.ref a22), .val (.int (fh b27 b32)), .val (.ref (fd b27 b32 b26 b31))] [] Q_law
                      refine wp_iload D_239 rfl ?_
                      refine wp_if_ne D_241 (pc'' := 261) ⟨by decide, by decide⟩ (fun h59 => ?_) (fun h59 => ?_)
                      · skip
                        refine wp_aload D_261 rfl rfl ?_
                        refine wp_virtual (c_get l Z a0 hw a16 (fd (fh b27 b32) b37 (fd b27 b32 b26 b31) b36) s17 s18 line (fh (fh b27 b32) b37) aE [(a22, oI "com/example/dalles/dalles/schema/PostgreSqlColumn" sg_3 [(.ref b36), (.ref aE), (.ref s23), (.ref s24), (.int line), (.int b37), (.null)]), (a19, oI "com/example/dalles/dalles/schema/PostgreSqlColumn" sg_3 [(.ref b31), (.ref aE), (.ref s20), (.ref s21), (.int line), (.int b32), b41]), (f15, oI "com/example/dalles/dalles/schema/Fill" sg_2 [(.ref a12), (.int (0 : Int32))]), (a12, oI "com/example/dalles/dalles/schema/Sequence" sg_1 [(.ref s13), (.ref s14)])]) (exa_new (i := 0) rfl) D_263 (hw _ (List.mem_of_getElem? (i := 76) rfl)) (hw _ (List.mem_of_getElem? (i := 77) rfl)) (hw _ (List.mem_of_getElem? (i := 79) rfl)) (hw _ (List.mem_of_getElem? (i := 79) rfl)) (hw _ (List.mem_of_getElem? (i := 78) rfl)) (hw _ (List.mem_of_getElem? (i := 44) rfl)) (hw _ (List.mem_of_getElem? (i := 80) rfl)) (by decide) pd_9 rfl rfl rfl (Nat.le_of_ble_eq_true rfl) (Nat.le_of_ble_eq_true rfl) (Nat.le_of_ble_eq_true rfl) (Nat.le_of_ble_eq_true rfl) ?_
                        rintro _ _ ⟨rfl, rfl⟩
                        show Wp (some none) l Z "com/example/dalles/dalles/schema/PostgreSqlColumnInheritDefaultPinLaw" "law" code maxLocals ret room_1 [(a16, oI "com/example/dalles/dalles/schema/PostgreSqlColumn" sg_3 [(.ref (fd (fh b27 b32) b37 (fd b27 b32 b26 b31) b36)), (.ref aE), (.ref s17), (.ref s18), (.int line), (.int (fh (fh b27 b32) b37)), (.null)]), (a22, oI "com/example/dalles/dalles/schema/PostgreSqlColumn" sg_3 [(.ref b36), (.ref aE), (.ref s23), (.ref s24), (.int line), (.int b37), (.null)]), (a19, oI "com/example/dalles/dalles/schema/PostgreSqlColumn" sg_3 [(.ref b31), (.ref aE), (.ref s20), (.ref s21), (.int line), (.int b32), b41]), (f15, oI "com/example/dalles/dalles/schema/Fill" sg_2 [(.ref a12), (.int (0 : Int32))]), (a12, oI "com/example/dalles/dalles/schema/Sequence" sg_1 [(.ref s13), (.ref s14)])] 21 169 266 #[.val (.int flags), .val (.int line), .val (.int x1), .val (.int x2), .val (.int x3), .val (.int b5), .val (.int b9), .val (.ref a12), .val (.ref f15), .val (.ref a16), .val (.ref a19), .val (.ref a22), .val (.int (fh b27 b32)), .val (.ref (fd b27 b32 b26 b31))] [(.ref (fd (fh b27 b32) b37 (fd b27 b32 b26 b31) b36))] Q_law
                        refine wp_aload D_266 rfl rfl ?_
                        refine wp_acmp_ne D_268 (pc'' := 275) ⟨by decide, by decide⟩ rfl rfl (fun h60 => ?_) (fun h60 => ?_)
                        · skip
                          refine wp_iconst 0 D_275 (by decide) ?_
                          refine wp_ireturnN D_276 rfl (by simp) (by decide) (by decide) ?_
                          exfalso; first | (simp_all [fd]; done) | (simp_all [fd, fh]; done)
                        · skip
                          refine wp_iconst 1 D_271 (by decide) ?_
                          refine wp_goto D_272 (pc'' := 276) ⟨by decide, by decide⟩ ?_
                          refine wp_ireturnN D_276 rfl (by simp) (by decide) (by decide) ?_
                          exact rfl
                      · skip
                        refine wp_iload D_244 rfl ?_
                        refine wp_if_eq D_246 (pc'' := 261) ⟨by decide, by decide⟩ (fun h61 => ?_) (fun h61 => ?_)
                        · skip
                          refine wp_aload D_261 rfl rfl ?_
                          refine wp_virtual (c_get l Z a0 hw a16 (fd (fh b27 b32) b37 (fd b27 b32 b26 b31) b36) s17 s18 line (fh (fh b27 b32) b37) aE [(a22, oI "com/example/dalles/dalles/schema/PostgreSqlColumn" sg_3 [(.ref b36), (.ref aE), (.ref s23), (.ref s24), (.int line), (.int b37), (.null)]), (a19, oI "com/example/dalles/dalles/schema/PostgreSqlColumn" sg_3 [(.ref b31), (.ref aE), (.ref s20), (.ref s21), (.int line), (.int b32), b41]), (f15, oI "com/example/dalles/dalles/schema/Fill" sg_2 [(.ref a12), (.int (0 : Int32))]), (a12, oI "com/example/dalles/dalles/schema/Sequence" sg_1 [(.ref s13), (.ref s14)])]) (exa_new (i := 0) rfl) D_263 (hw _ (List.mem_of_getElem? (i := 76) rfl)) (hw _ (List.mem_of_getElem? (i := 77) rfl)) (hw _ (List.mem_of_getElem? (i := 79) rfl)) (hw _ (List.mem_of_getElem? (i := 79) rfl)) (hw _ (List.mem_of_getElem? (i := 78) rfl)) (hw _ (List.mem_of_getElem? (i := 44) rfl)) (hw _ (List.mem_of_getElem? (i := 80) rfl)) (by decide) pd_9 rfl rfl rfl (Nat.le_of_ble_eq_true rfl) (Nat.le_of_ble_eq_true rfl) (Nat.le_of_ble_eq_true rfl) (Nat.le_of_ble_eq_true rfl) ?_
                          rintro _ _ ⟨rfl, rfl⟩
                          show Wp (some none) l Z "com/example/dalles/dalles/schema/PostgreSqlColumnInheritDefaultPinLaw" "law" code maxLocals ret room_1 [(a16, oI "com/example/dalles/dalles/schema/PostgreSqlColumn" sg_3 [(.ref (fd (fh b27 b32) b37 (fd b27 b32 b26 b31) b36)), (.ref aE), (.ref s17), (.ref s18), (.int line), (.int (fh (fh b27 b32) b37)), (.null)]), (a22, oI "com/example/dalles/dalles/schema/PostgreSqlColumn" sg_3 [(.ref b36), (.ref aE), (.ref s23), (.ref s24), (.int line), (.int b37), (.null)]), (a19, oI "com/example/dalles/dalles/schema/PostgreSqlColumn" sg_3 [(.ref b31), (.ref aE), (.ref s20), (.ref s21), (.int line), (.int b32), b41]), (f15, oI "com/example/dalles/dalles/schema/Fill" sg_2 [(.ref a12), (.int (0 : Int32))]), (a12, oI "com/example/dalles/dalles/schema/Sequence" sg_1 [(.ref s13), (.ref s14)])] 21 169 266 #[.val (.int flags), .val (.int line), .val (.int x1), .val (.int x2), .val (.int x3), .val (.int b5), .val (.int b9), .val (.ref a12), .val (.ref f15), .val (.ref a16), .val (.ref a19), .val (.ref a22), .val (.int (fh b27 b32)), .val (.ref (fd b27 b32 b26 b31))] [(.ref (fd (fh b27 b32) b37 (fd b27 b32 b26 b31) b36))] Q_law
                          refine wp_aload D_266 rfl rfl ?_
                          refine wp_acmp_ne D_268 (pc'' := 275) ⟨by decide, by decide⟩ rfl rfl (fun h62 => ?_) (fun h62 => ?_)
                          · skip
                            refine wp_iconst 0 D_275 (by decide) ?_
                            refine wp_ireturnN D_276 rfl (by simp) (by decide) (by decide) ?_
                            exfalso; first | (simp_all [fd]; done) | (simp_all [fd, fh]; done)
                          · skip
                            refine wp_iconst 1 D_271 (by decide) ?_
                            refine wp_goto D_272 (pc'' := 276) ⟨by decide, by decide⟩ ?_
                            refine wp_ireturnN D_276 rfl (by simp) (by decide) (by decide) ?_
                            exact rfl
                        · skip
                          refine wp_iconst 1 D_249 (by decide) ?_
                          refine wp_istore #[.val (.int flags), .val (.int line), .val (.int x1), .val (.int x2), .val (.int x3), .val (.int b5), .val (.int b9), .val (.ref a12), .val (.ref f15), .val (.ref a16), .val (.ref a19), .val (.ref a22), .val (.int (1 : Int32)), .val (.ref (fd b27 b32 b26 b31))] D_250 rfl ?_
                          refine wp_iload D_252 rfl ?_
                          refine wp_aload D_254 rfl rfl ?_
                          refine wp_callS (c_pick l Z a0 hw x3 f15 aN aR [(a16, oI "com/example/dalles/dalles/schema/PostgreSqlColumn" sg_3 [(.ref (fd (fh b27 b32) b37 (fd b27 b32 b26 b31) b36)), (.ref aE), (.ref s17), (.ref s18), (.int line), (.int (fh (fh b27 b32) b37)), (.null)]), (a22, oI "com/example/dalles/dalles/schema/PostgreSqlColumn" sg_3 [(.ref b36), (.ref aE), (.ref s23), (.ref s24), (.int line), (.int b37), (.null)]), (a19, oI "com/example/dalles/dalles/schema/PostgreSqlColumn" sg_3 [(.ref b31), (.ref aE), (.ref s20), (.ref s21), (.int line), (.int b32), b41]), (f15, oI "com/example/dalles/dalles/schema/Fill" sg_2 [(.ref a12), (.int (0 : Int32))]), (a12, oI "com/example/dalles/dalles/schema/Sequence" sg_1 [(.ref s13), (.ref s14)])] S_N S_R) D_256 (hw _ (List.mem_of_getElem? (i := 83) rfl)) (hw _ (List.mem_of_getElem? (i := 84) rfl)) (hw _ (List.mem_of_getElem? (i := 85) rfl)) (hw _ (List.mem_of_getElem? (i := 86) rfl)) (by decide) pd_10 rfl rfl rfl (Nat.le_of_ble_eq_true rfl) (Nat.le_of_ble_eq_true rfl) (Nat.le_of_ble_eq_true rfl) (Nat.le_of_ble_eq_true rfl) ?_
                          rintro _ _ ⟨rfl, rfl⟩
                          show Wp (some none) l Z "com/example/dalles/dalles/schema/PostgreSqlColumnInheritDefaultPinLaw" "law" code maxLocals ret room_1 [(a16, oI "com/example/dalles/dalles/schema/PostgreSqlColumn" sg_3 [(.ref (fd (fh b27 b32) b37 (fd b27 b32 b26 b31) b36)), (.ref aE), (.ref s17), (.ref s18), (.int line), (.int (fh (fh b27 b32) b37)), (.null)]), (a22, oI "com/example/dalles/dalles/schema/PostgreSqlColumn" sg_3 [(.ref b36), (.ref aE), (.ref s23), (.ref s24), (.int line), (.int b37), (.null)]), (a19, oI "com/example/dalles/dalles/schema/PostgreSqlColumn" sg_3 [(.ref b31), (.ref aE), (.ref s20), (.ref s21), (.int line), (.int b32), b41]), (f15, oI "com/example/dalles/dalles/schema/Fill" sg_2 [(.ref a12), (.int (0 : Int32))]), (a12, oI "com/example/dalles/dalles/schema/Sequence" sg_1 [(.ref s13), (.ref s14)])] 21 169 259 #[.val (.int flags), .val (.int line), .val (.int x1), .val (.int x2), .val (.int x3), .val (.int b5), .val (.int b9), .val (.ref a12), .val (.ref f15), .val (.ref a16), .val (.ref a19), .val (.ref a22), .val (.int (1 : Int32)), .val (.ref (fd b27 b32 b26 b31))] [(.ref (pk aN aR x3 f15))] Q_law
                          refine wp_astore #[.val (.int flags), .val (.int line), .val (.int x1), .val (.int x2), .val (.int x3), .val (.int b5), .val (.int b9), .val (.ref a12), .val (.ref f15), .val (.ref a16), .val (.ref a19), .val (.ref a22), .val (.int (1 : Int32)), .val (.ref (pk aN aR x3 f15))] D_259 rfl rfl ?_
                          refine wp_aload D_261 rfl rfl ?_
                          refine wp_virtual (c_get l Z a0 hw a16 (fd (fh b27 b32) b37 (fd b27 b32 b26 b31) b36) s17 s18 line (fh (fh b27 b32) b37) aE [(a22, oI "com/example/dalles/dalles/schema/PostgreSqlColumn" sg_3 [(.ref b36), (.ref aE), (.ref s23), (.ref s24), (.int line), (.int b37), (.null)]), (a19, oI "com/example/dalles/dalles/schema/PostgreSqlColumn" sg_3 [(.ref b31), (.ref aE), (.ref s20), (.ref s21), (.int line), (.int b32), b41]), (f15, oI "com/example/dalles/dalles/schema/Fill" sg_2 [(.ref a12), (.int (0 : Int32))]), (a12, oI "com/example/dalles/dalles/schema/Sequence" sg_1 [(.ref s13), (.ref s14)])]) (exa_new (i := 0) rfl) D_263 (hw _ (List.mem_of_getElem? (i := 76) rfl)) (hw _ (List.mem_of_getElem? (i := 77) rfl)) (hw _ (List.mem_of_getElem? (i := 79) rfl)) (hw _ (List.mem_of_getElem? (i := 79) rfl)) (hw _ (List.mem_of_getElem? (i := 78) rfl)) (hw _ (List.mem_of_getElem? (i := 44) rfl)) (hw _ (List.mem_of_getElem? (i := 80) rfl)) (by decide) pd_9 rfl rfl rfl (Nat.le_of_ble_eq_true rfl) (Nat.le_of_ble_eq_true rfl) (Nat.le_of_ble_eq_true rfl) (Nat.le_of_ble_eq_true rfl) ?_
                          rintro _ _ ⟨rfl, rfl⟩
                          show Wp (some none) l Z "com/example/dalles/dalles/schema/PostgreSqlColumnInheritDefaultPinLaw" "law" code maxLocals ret room_1 [(a16, oI "com/example/dalles/dalles/schema/PostgreSqlColumn" sg_3 [(.ref (fd (fh b27 b32) b37 (fd b27 b32 b26 b31) b36)), (.ref aE), (.ref s17), (.ref s18), (.int line), (.int (fh (fh b27 b32) b37)), (.null)]), (a22, oI "com/example/dalles/dalles/schema/PostgreSqlColumn" sg_3 [(.ref b36), (.ref aE), (.ref s23), (.ref s24), (.int line), (.int b37), (.null)]), (a19, oI "com/example/dalles/dalles/schema/PostgreSqlColumn" sg_3 [(.ref b31), (.ref aE), (.ref s20), (.ref s21), (.int line), (.int b32), b41]), (f15, oI "com/example/dalles/dalles/schema/Fill" sg_2 [(.ref a12), (.int (0 : Int32))]), (a12, oI "com/example/dalles/dalles/schema/Sequence" sg_1 [(.ref s13), (.ref s14)])] 21 169 266 #[.val (.int flags), .val (.int line), .val (.int x1), .val (.int x2), .val (.int x3), .val (.int b5), .val (.int b9), .val (.ref a12), .val (.ref f15), .val (.ref a16), .val (.ref a19), .val (.ref a22), .val (.int (1 : Int32)), .val (.ref (pk aN aR x3 f15))] [(.ref (fd (fh b27 b32) b37 (fd b27 b32 b26 b31) b36))] Q_law
                          refine wp_aload D_266 rfl rfl ?_
                          refine wp_acmp_ne D_268 (pc'' := 275) ⟨by decide, by decide⟩ rfl rfl (fun h63 => ?_) (fun h63 => ?_)
                          · skip
                            refine wp_iconst 0 D_275 (by decide) ?_
                            refine wp_ireturnN D_276 rfl (by simp) (by decide) (by decide) ?_
                            exfalso; first | (simp_all [fd]; done) | (simp_all [fd, fh]; done)
                          · skip
                            refine wp_iconst 1 D_271 (by decide) ?_
                            refine wp_goto D_272 (pc'' := 276) ⟨by decide, by decide⟩ ?_
                            refine wp_ireturnN D_276 rfl (by simp) (by decide) (by decide) ?_
                            exact rfl
                  refine wp_if_ne D_209 (pc'' := 227) ⟨by decide, by decide⟩ (fun h52 => ?_) (fun h52 => ?_)
                  · skip
                    exact (J56 b27 b26 (Or.inl ⟨h52, rfl, rfl⟩))
                  · skip
                    refine wp_iload_n D_212 rfl ?_
                    refine wp_if_eq D_213 (pc'' := 227) ⟨by decide, by decide⟩ (fun h64 => ?_) (fun h64 => ?_)
                    · skip
                      exact (J56 b27 b26 (Or.inr (Or.inl ⟨h52, h64, rfl, rfl⟩)))
                    · skip
                      refine wp_iconst 1 D_216 (by decide) ?_
                      refine wp_istore #[.val (.int flags), .val (.int line), .val (.int x1), .val (.int x2), .val (.int x3), .val (.int b5), .val (.int b9), .val (.ref a12), .val (.ref f15), .val (.ref a16), .val (.ref a19), .val (.ref a22), .val (.int (1 : Int32)), .val (.ref b26)] D_217 rfl ?_
                      refine wp_iload_n D_219 rfl ?_
                      refine wp_aload D_220 rfl rfl ?_
                      refine wp_callS (c_pick l Z a0 hw x2 f15 aN aR [(a16, oI "com/example/dalles/dalles/schema/PostgreSqlColumn" sg_3 [(.ref (fd b27 b32 b26 b31)), (.ref aE), (.ref s17), (.ref s18), (.int line), (.int (fh b27 b32)), (.null)]), (a19, oI "com/example/dalles/dalles/schema/PostgreSqlColumn" sg_3 [(.ref b31), (.ref aE), (.ref s20), (.ref s21), (.int line), (.int b32), b41]), (a22, oI "com/example/dalles/dalles/schema/PostgreSqlColumn" sg_3 [(.ref b36), (.ref aE), (.ref s23), (.ref s24), (.int line), (.int b37), (.null)]), (f15, oI "com/example/dalles/dalles/schema/Fill" sg_2 [(.ref a12), (.int (0 : Int32))]), (a12, oI "com/example/dalles/dalles/schema/Sequence" sg_1 [(.ref s13), (.ref s14)])] S_N S_R) D_222 (hw _ (List.mem_of_getElem? (i := 83) rfl)) (hw _ (List.mem_of_getElem? (i := 84) rfl)) (hw _ (List.mem_of_getElem? (i := 85) rfl)) (hw _ (List.mem_of_getElem? (i := 86) rfl)) (by decide) pd_10 rfl rfl rfl (Nat.le_of_ble_eq_true rfl) (Nat.le_of_ble_eq_true rfl) (Nat.le_of_ble_eq_true rfl) (Nat.le_of_ble_eq_true rfl) ?_
                      rintro _ _ ⟨rfl, rfl⟩
                      show Wp (some none) l Z "com/example/dalles/dalles/schema/PostgreSqlColumnInheritDefaultPinLaw" "law" code maxLocals ret room_1 [(a16, oI "com/example/dalles/dalles/schema/PostgreSqlColumn" sg_3 [(.ref (fd b27 b32 b26 b31)), (.ref aE), (.ref s17), (.ref s18), (.int line), (.int (fh b27 b32)), (.null)]), (a19, oI "com/example/dalles/dalles/schema/PostgreSqlColumn" sg_3 [(.ref b31), (.ref aE), (.ref s20), (.ref s21), (.int line), (.int b32), b41]), (a22, oI "com/example/dalles/dalles/schema/PostgreSqlColumn" sg_3 [(.ref b36), (.ref aE), (.ref s23), (.ref s24), (.int line), (.int b37), (.null)]), (f15, oI "com/example/dalles/dalles/schema/Fill" sg_2 [(.ref a12), (.int (0 : Int32))]), (a12, oI "com/example/dalles/dalles/schema/Sequence" sg_1 [(.ref s13), (.ref s14)])] 21 169 225 #[.val (.int flags), .val (.int line), .val (.int x1), .val (.int x2), .val (.int x3), .val (.int b5), .val (.int b9), .val (.ref a12), .val (.ref f15), .val (.ref a16), .val (.ref a19), .val (.ref a22), .val (.int (1 : Int32)), .val (.ref b26)] [(.ref (pk aN aR x2 f15))] Q_law
                      refine wp_astore #[.val (.int flags), .val (.int line), .val (.int x1), .val (.int x2), .val (.int x3), .val (.int b5), .val (.int b9), .val (.ref a12), .val (.ref f15), .val (.ref a16), .val (.ref a19), .val (.ref a22), .val (.int (1 : Int32)), .val (.ref (pk aN aR x2 f15))] D_225 rfl rfl ?_
                      exact (J56 (1 : Int32) (pk aN aR x2 f15) (Or.inr (Or.inr ⟨h52, h64, rfl, rfl⟩)))
                refine wp_if_eq D_183 (pc'' := 195) ⟨by decide, by decide⟩ (fun h48 => ?_) (fun h48 => ?_)
                · skip
                  refine wp_getstatic D_195 (hw _ (List.mem_of_getElem? (i := 68) rfl)) S_N ?_
                  exact (J51 aN (Or.inl ⟨h48, rfl⟩))
                · skip
                  refine wp_iload_n D_186 rfl ?_
                  refine wp_aload D_187 rfl rfl ?_
                  refine wp_callS (c_pick l Z a0 hw x1 f15 aN aR [(a22, oI "com/example/dalles/dalles/schema/PostgreSqlColumn" sg_3 [(.ref b36), (.ref aE), (.ref s23), (.ref s24), (.int line), (.int b37), (.null)]), (a19, oI "com/example/dalles/dalles/schema/PostgreSqlColumn" sg_3 [(.ref b31), (.ref aE), (.ref s20), (.ref s21), (.int line), (.int b32), b41]), (a16, oI "com/example/dalles/dalles/schema/PostgreSqlColumn" sg_3 [(.ref b26), (.ref aE), (.ref s17), (.ref s18), (.int line), (.int b27), (.null)]), (f15, oI "com/example/dalles/dalles/schema/Fill" sg_2 [(.ref a12), (.int (0 : Int32))]), (a12, oI "com/example/dalles/dalles/schema/Sequence" sg_1 [(.ref s13), (.ref s14)])] S_N S_R) D_189 (hw _ (List.mem_of_getElem? (i := 83) rfl)) (hw _ (List.mem_of_getElem? (i := 84) rfl)) (hw _ (List.mem_of_getElem? (i := 85) rfl)) (hw _ (List.mem_of_getElem? (i := 86) rfl)) (by decide) pd_10 rfl rfl rfl (Nat.le_of_ble_eq_true rfl) (Nat.le_of_ble_eq_true rfl) (Nat.le_of_ble_eq_true rfl) (Nat.le_of_ble_eq_true rfl) ?_
                  rintro _ _ ⟨rfl, rfl⟩
                  show Wp (some none) l Z "com/example/dalles/dalles/schema/PostgreSqlColumnInheritDefaultPinLaw" "law" code maxLocals ret room_1 [(a22, oI "com/example/dalles/dalles/schema/PostgreSqlColumn" sg_3 [(.ref b36), (.ref aE), (.ref s23), (.ref s24), (.int line), (.int b37), (.null)]), (a19, oI "com/example/dalles/dalles/schema/PostgreSqlColumn" sg_3 [(.ref b31), (.ref aE), (.ref s20), (.ref s21), (.int line), (.int b32), b41]), (a16, oI "com/example/dalles/dalles/schema/PostgreSqlColumn" sg_3 [(.ref b26), (.ref aE), (.ref s17), (.ref s18), (.int line), (.int b27), (.null)]), (f15, oI "com/example/dalles/dalles/schema/Fill" sg_2 [(.ref a12), (.int (0 : Int32))]), (a12, oI "com/example/dalles/dalles/schema/Sequence" sg_1 [(.ref s13), (.ref s14)])] 21 169 192 #[.val (.int flags), .val (.int line), .val (.int x1), .val (.int x2), .val (.int x3), .val (.int b5), .val (.int b9), .val (.ref a12), .val (.ref f15), .val (.ref a16), .val (.ref a19), .val (.ref a22), .val (.int b27), .unset] [(.ref (pk aN aR x1 f15))] Q_law
                  refine wp_goto D_192 (pc'' := 198) ⟨by decide, by decide⟩ ?_
                  exact (J51 (pk aN aR x1 f15) (Or.inr ⟨h48, rfl⟩))
              refine wp_if_eq D_171 (pc'' := 178) ⟨by decide, by decide⟩ (fun h44 => ?_) (fun h44 => ?_)
              · skip
                refine wp_iconst 0 D_178 (by decide) ?_
                exact (J47 (0 : Int32) (Or.inl ⟨h44, rfl⟩))
              · skip
                refine wp_iconst 1 D_174 (by decide) ?_
                refine wp_goto D_175 (pc'' := 179) ⟨by decide, by decide⟩ ?_
                exact (J47 (1 : Int32) (Or.inr ⟨h44, rfl⟩))
            refine wp_if_eq D_160 (pc'' := 170) ⟨by decide, by decide⟩ (fun h40 => ?_) (fun h40 => ?_)
            · skip
              exact (J43 (.null) (Or.inl ⟨h40, rfl⟩))
            · skip
              refine wp_aload D_163 rfl rfl ?_
              refine wp_aload D_165 rfl rfl ?_
              refine Wp.pick [1, 0, 2, 3, 4] (by decide) ?_
              show Wp (some none) l Z "com/example/dalles/dalles/schema/PostgreSqlColumnInheritDefaultPinLaw" "law" code maxLocals ret room_1 [(a19, oI "com/example/dalles/dalles/schema/PostgreSqlColumn" sg_3 [(.ref b31), (.ref aE), (.ref s20), (.ref s21), (.int line), (.int b32), (.null)]), (a22, oI "com/example/dalles/dalles/schema/PostgreSqlColumn" sg_3 [(.ref b36), (.ref aE), (.ref s23), (.ref s24), (.int line), (.int b37), (.null)]), (a16, oI "com/example/dalles/dalles/schema/PostgreSqlColumn" sg_3 [(.ref b26), (.ref aE), (.ref s17), (.ref s18), (.int line), (.int b27), (.null)]), (f15, oI "com/example/dalles/dalles/schema/Fill" sg_2 [(.ref a12), (.int (0 : Int32))]), (a12, oI "com/example/dalles/dalles/schema/Sequence" sg_1 [(.ref s13), (.ref s14)])] 21 169 167 #[.val (.int flags), .val (.int line), .val (.int x1), .val (.int x2), .val (.int x3), .val (.int b5), .val (.int b9), .val (.ref a12), .val (.ref f15), .val (.ref a16), .val (.ref a19), .val (.ref a22), .unset, .unset] [(.ref a12), (.ref a19)] Q_law
              refine wp_virtual (c_mk l Z a0 hw a12 a19 b31 s20 s21 line b32 (.null) aE [(a22, oI "com/example/dalles/dalles/schema/PostgreSqlColumn" sg_3 [(.ref b36), (.ref aE), (.ref s23), (.ref s24), (.int line), (.int b37), (.null)]), (a16, oI "com/example/dalles/dalles/schema/PostgreSqlColumn" sg_3 [(.ref b26), (.ref aE), (.ref s17), (.ref s18), (.int line), (.int b27), (.null)]), (f15, oI "com/example/dalles/dalles/schema/Fill" sg_2 [(.ref a12), (.int (0 : Int32))]), (a12, oI "com/example/dalles/dalles/schema/Sequence" sg_1 [(.ref s13), (.ref s14)])]) (exa_new (i := 0) rfl) D_167 (hw _ (List.mem_of_getElem? (i := 94) rfl)) (hw _ (List.mem_of_getElem? (i := 95) rfl)) (hw _ (List.mem_of_getElem? (i := 97) rfl)) (hw _ (List.mem_of_getElem? (i := 97) rfl)) (hw _ (List.mem_of_getElem? (i := 96) rfl)) (hw _ (List.mem_of_getElem? (i := 44) rfl)) (hw _ (List.mem_of_getElem? (i := 98) rfl)) (by decide) pd_11 rfl rfl rfl (Nat.le_of_ble_eq_true rfl) (Nat.le_of_ble_eq_true rfl) (Nat.le_of_ble_eq_true rfl) (Nat.le_of_ble_eq_true rfl) ?_
              rintro _ _ ⟨rfl, rfl⟩
              show Wp (some none) l Z "com/example/dalles/dalles/schema/PostgreSqlColumnInheritDefaultPinLaw" "law" code maxLocals ret room_1 [(a19, oI "com/example/dalles/dalles/schema/PostgreSqlColumn" sg_3 [(.ref b31), (.ref aE), (.ref s20), (.ref s21), (.int line), (.int b32), (.ref a12)]), (a22, oI "com/example/dalles/dalles/schema/PostgreSqlColumn" sg_3 [(.ref b36), (.ref aE), (.ref s23), (.ref s24), (.int line), (.int b37), (.null)]), (a16, oI "com/example/dalles/dalles/schema/PostgreSqlColumn" sg_3 [(.ref b26), (.ref aE), (.ref s17), (.ref s18), (.int line), (.int b27), (.null)]), (f15, oI "com/example/dalles/dalles/schema/Fill" sg_2 [(.ref a12), (.int (0 : Int32))]), (a12, oI "com/example/dalles/dalles/schema/Sequence" sg_1 [(.ref s13), (.ref s14)])] 21 169 170 #[.val (.int flags), .val (.int line), .val (.int x1), .val (.int x2), .val (.int x3), .val (.int b5), .val (.int b9), .val (.ref a12), .val (.ref f15), .val (.ref a16), .val (.ref a19), .val (.ref a22), .unset, .unset] [] Q_law
              refine Wp.pick [1, 0, 2, 3, 4] (by decide) ?_
              show Wp (some none) l Z "com/example/dalles/dalles/schema/PostgreSqlColumnInheritDefaultPinLaw" "law" code maxLocals ret room_1 [(a22, oI "com/example/dalles/dalles/schema/PostgreSqlColumn" sg_3 [(.ref b36), (.ref aE), (.ref s23), (.ref s24), (.int line), (.int b37), (.null)]), (a19, oI "com/example/dalles/dalles/schema/PostgreSqlColumn" sg_3 [(.ref b31), (.ref aE), (.ref s20), (.ref s21), (.int line), (.int b32), (.ref a12)]), (a16, oI "com/example/dalles/dalles/schema/PostgreSqlColumn" sg_3 [(.ref b26), (.ref aE), (.ref s17), (.ref s18), (.int line), (.int b27), (.null)]), (f15, oI "com/example/dalles/dalles/schema/Fill" sg_2 [(.ref a12), (.int (0 : Int32))]), (a12, oI "com/example/dalles/dalles/schema/Sequence" sg_1 [(.ref s13), (.ref s14)])] 21 169 170 #[.val (.int flags), .val (.int line), .val (.int x1), .val (.int x2), .val (.int x3), .val (.int b5), .val (.int b9), .val (.ref a12), .val (.ref f15), .val (.ref a16), .val (.ref a19), .val (.ref a22), .unset, .unset] [] Q_law
              exact (J43 (.ref a12) (Or.inr ⟨h40, rfl⟩))
          refine wp_if_eq D_143 (pc'' := 158) ⟨by decide, by decide⟩ (fun h35 => ?_) (fun h35 => ?_)
          · skip
            exact (J39 aN (0 : Int32) (Or.inl ⟨h35, rfl, rfl⟩))
          · skip
            refine wp_aload D_146 rfl rfl ?_
            refine wp_iload D_148 rfl ?_
            refine wp_aload D_150 rfl rfl ?_
            refine wp_callS (c_pick l Z a0 hw x3 f15 aN aR [(a22, oI "com/example/dalles/dalles/schema/PostgreSqlColumn" sg_3 [(.ref aN), (.ref aE), (.ref s23), (.ref s24), (.int line), (.int (0 : Int32)), (.null)]), (a19, oI "com/example/dalles/dalles/schema/PostgreSqlColumn" sg_3 [(.ref b31), (.ref aE), (.ref s20), (.ref s21), (.int line), (.int b32), (.null)]), (a16, oI "com/example/dalles/dalles/schema/PostgreSqlColumn" sg_3 [(.ref b26), (.ref aE), (.ref s17), (.ref s18), (.int line), (.int b27), (.null)]), (f15, oI "com/example/dalles/dalles/schema/Fill" sg_2 [(.ref a12), (.int (0 : Int32))]), (a12, oI "com/example/dalles/dalles/schema/Sequence" sg_1 [(.ref s13), (.ref s14)])] S_N S_R) D_152 (hw _ (List.mem_of_getElem? (i := 83) rfl)) (hw _ (List.mem_of_getElem? (i := 84) rfl)) (hw _ (List.mem_of_getElem? (i := 85) rfl)) (hw _ (List.mem_of_getElem? (i := 86) rfl)) (by decide) pd_10 rfl rfl rfl (Nat.le_of_ble_eq_true rfl) (Nat.le_of_ble_eq_true rfl) (Nat.le_of_ble_eq_true rfl) (Nat.le_of_ble_eq_true rfl) ?_
            rintro _ _ ⟨rfl, rfl⟩
            show Wp (some none) l Z "com/example/dalles/dalles/schema/PostgreSqlColumnInheritDefaultPinLaw" "law" code maxLocals ret room_1 [(a22, oI "com/example/dalles/dalles/schema/PostgreSqlColumn" sg_3 [(.ref aN), (.ref aE), (.ref s23), (.ref s24), (.int line), (.int (0 : Int32)), (.null)]), (a19, oI "com/example/dalles/dalles/schema/PostgreSqlColumn" sg_3 [(.ref b31), (.ref aE), (.ref s20), (.ref s21), (.int line), (.int b32), (.null)]), (a16, oI "com/example/dalles/dalles/schema/PostgreSqlColumn" sg_3 [(.ref b26), (.ref aE), (.ref s17), (.ref s18), (.int line), (.int b27), (.null)]), (f15, oI "com/example/dalles/dalles/schema/Fill" sg_2 [(.ref a12), (.int (0 : Int32))]), (a12, oI "com/example/dalles/dalles/schema/Sequence" sg_1 [(.ref s13), (.ref s14)])] 21 169 155 #[.val (.int flags), .val (.int line), .val (.int x1), .val (.int x2), .val (.int x3), .val (.int b5), .val (.int b9), .val (.ref a12), .val (.ref f15), .val (.ref a16), .val (.ref a19), .val (.ref a22), .unset, .unset] [(.ref (pk aN aR x3 f15)), (.ref a22)] Q_law
            refine wp_virtual (c_set l Z a0 hw (pk aN aR x3 f15) a22 aN s23 s24 line (0 : Int32) (.null) aE [(a19, oI "com/example/dalles/dalles/schema/PostgreSqlColumn" sg_3 [(.ref b31), (.ref aE), (.ref s20), (.ref s21), (.int line), (.int b32), (.null)]), (a16, oI "com/example/dalles/dalles/schema/PostgreSqlColumn" sg_3 [(.ref b26), (.ref aE), (.ref s17), (.ref s18), (.int line), (.int b27), (.null)]), (f15, oI "com/example/dalles/dalles/schema/Fill" sg_2 [(.ref a12), (.int (0 : Int32))]), (a12, oI "com/example/dalles/dalles/schema/Sequence" sg_1 [(.ref s13), (.ref s14)])]) (exa_new (i := 0) rfl) D_155 (hw _ (List.mem_of_getElem? (i := 89) rfl)) (hw _ (List.mem_of_getElem? (i := 90) rfl)) (hw _ (List.mem_of_getElem? (i := 92) rfl)) (hw _ (List.mem_of_getElem? (i := 92) rfl)) (hw _ (List.mem_of_getElem? (i := 91) rfl)) (hw _ (List.mem_of_getElem? (i := 44) rfl)) (hw _ (List.mem_of_getElem? (i := 93) rfl)) (by decide) pd_4 rfl rfl rfl (Nat.le_of_ble_eq_true rfl) (Nat.le_of_ble_eq_true rfl) (Nat.le_of_ble_eq_true rfl) (Nat.le_of_ble_eq_true rfl) ?_
            rintro _ _ ⟨rfl, rfl⟩
            show Wp (some none) l Z "com/example/dalles/dalles/schema/PostgreSqlColumnInheritDefaultPinLaw" "law" code maxLocals ret room_1 [(a22, oI "com/example/dalles/dalles/schema/PostgreSqlColumn" sg_3 [(.ref (pk aN aR x3 f15)), (.ref aE), (.ref s23), (.ref s24), (.int line), (.int (1 : Int32)), (.null)]), (a19, oI "com/example/dalles/dalles/schema/PostgreSqlColumn" sg_3 [(.ref b31), (.ref aE), (.ref s20), (.ref s21), (.int line), (.int b32), (.null)]), (a16, oI "com/example/dalles/dalles/schema/PostgreSqlColumn" sg_3 [(.ref b26), (.ref aE), (.ref s17), (.ref s18), (.int line), (.int b27), (.null)]), (f15, oI "com/example/dalles/dalles/schema/Fill" sg_2 [(.ref a12), (.int (0 : Int32))]), (a12, oI "com/example/dalles/dalles/schema/Sequence" sg_1 [(.ref s13), (.ref s14)])] 21 169 158 #[.val (.int flags), .val (.int line), .val (.int x1), .val (.int x2), .val (.int x3), .val (.int b5), .val (.int b9), .val (.ref a12), .val (.ref f15), .val (.ref a16), .val (.ref a19), .val (.ref a22), .unset, .unset] [] Q_law
            exact (J39 (pk aN aR x3 f15) (1 : Int32) (Or.inr ⟨h35, rfl, rfl⟩))
        refine wp_if_eq D_127 (pc'' := 141) ⟨by decide, by decide⟩ (fun h30 => ?_) (fun h30 => ?_)
        · skip
          exact (J34 aN (0 : Int32) (Or.inl ⟨h30, rfl, rfl⟩))
        · skip
          refine wp_aload D_130 rfl rfl ?_
          refine wp_iload_n D_132 rfl ?_
          refine wp_aload D_133 rfl rfl ?_
          refine wp_callS (c_pick l Z a0 hw x2 f15 aN aR [(a22, oI "com/example/dalles/dalles/schema/PostgreSqlColumn" sg_3 [(.ref aN), (.ref aE), (.ref s23), (.ref s24), (.int line), (.int (0 : Int32)), (.null)]), (a19, oI "com/example/dalles/dalles/schema/PostgreSqlColumn" sg_3 [(.ref aN), (.ref aE), (.ref s20), (.ref s21), (.int line), (.int (0 : Int32)), (.null)]), (a16, oI "com/example/dalles/dalles/schema/PostgreSqlColumn" sg_3 [(.ref b26), (.ref aE), (.ref s17), (.ref s18), (.int line), (.int b27), (.null)]), (f15, oI "com/example/dalles/dalles/schema/Fill" sg_2 [(.ref a12), (.int (0 : Int32))]), (a12, oI "com/example/dalles/dalles/schema/Sequence" sg_1 [(.ref s13), (.ref s14)])] S_N S_R) D_135 (hw _ (List.mem_of_getElem? (i := 83) rfl)) (hw _ (List.mem_of_getElem? (i := 84) rfl)) (hw _ (List.mem_of_getElem? (i := 85) rfl)) (hw _ (List.mem_of_getElem? (i := 86) rfl)) (by decide) pd_10 rfl rfl rfl (Nat.le_of_ble_eq_true rfl) (Nat.le_of_ble_eq_true rfl) (Nat.le_of_ble_eq_true rfl) (Nat.le_of_ble_eq_true rfl) ?_
          rintro _ _ ⟨rfl, rfl⟩
          show Wp (some none) l Z "com/example/dalles/dalles/schema/PostgreSqlColumnInheritDefaultPinLaw" "law" code maxLocals ret room_1 [(a22, oI "com/example/dalles/dalles/schema/PostgreSqlColumn" sg_3 [(.ref aN), (.ref aE), (.ref s23), (.ref s24), (.int line), (.int (0 : Int32)), (.null)]), (a19, oI "com/example/dalles/dalles/schema/PostgreSqlColumn" sg_3 [(.ref aN), (.ref aE), (.ref s20), (.ref s21), (.int line), (.int (0 : Int32)), (.null)]), (a16, oI "com/example/dalles/dalles/schema/PostgreSqlColumn" sg_3 [(.ref b26), (.ref aE), (.ref s17), (.ref s18), (.int line), (.int b27), (.null)]), (f15, oI "com/example/dalles/dalles/schema/Fill" sg_2 [(.ref a12), (.int (0 : Int32))]), (a12, oI "com/example/dalles/dalles/schema/Sequence" sg_1 [(.ref s13), (.ref s14)])] 21 169 138 #[.val (.int flags), .val (.int line), .val (.int x1), .val (.int x2), .val (.int x3), .val (.int b5), .val (.int b9), .val (.ref a12), .val (.ref f15), .val (.ref a16), .val (.ref a19), .val (.ref a22), .unset, .unset] [(.ref (pk aN aR x2 f15)), (.ref a19)] Q_law
          refine Wp.pick [1, 0, 2, 3, 4] (by decide) ?_
          show Wp (some none) l Z "com/example/dalles/dalles/schema/PostgreSqlColumnInheritDefaultPinLaw" "law" code maxLocals ret room_1 [(a19, oI "com/example/dalles/dalles/schema/PostgreSqlColumn" sg_3 [(.ref aN), (.ref aE), (.ref s20), (.ref s21), (.int line), (.int (0 : Int32)), (.null)]), (a22, oI "com/example/dalles/dalles/schema/PostgreSqlColumn" sg_3 [(.ref aN), (.ref aE), (.ref s23), (.ref s24), (.int line), (.int (0 : Int32)), (.null)]), (a16, oI "com/example/dalles/dalles/schema/PostgreSqlColumn" sg_3 [(.ref b26), (.ref aE), (.ref s17), (.ref s18), (.int line), (.int b27), (.null)]), (f15, oI "com/example/dalles/dalles/schema/Fill" sg_2 [(.ref a12), (.int (0 : Int32))]), (a12, oI "com/example/dalles/dalles/schema/Sequence" sg_1 [(.ref s13), (.ref s14)])] 21 169 138 #[.val (.int flags), .val (.int line), .val (.int x1), .val (.int x2), .val (.int x3), .val (.int b5), .val (.int b9), .val (.ref a12), .val (.ref f15), .val (.ref a16), .val (.ref a19), .val (.ref a22), .unset, .unset] [(.ref (pk aN aR x2 f15)), (.ref a19)] Q_law
          refine wp_virtual (c_set l Z a0 hw (pk aN aR x2 f15) a19 aN s20 s21 line (0 : Int32) (.null) aE [(a22, oI "com/example/dalles/dalles/schema/PostgreSqlColumn" sg_3 [(.ref aN), (.ref aE), (.ref s23), (.ref s24), (.int line), (.int (0 : Int32)), (.null)]), (a16, oI "com/example/dalles/dalles/schema/PostgreSqlColumn" sg_3 [(.ref b26), (.ref aE), (.ref s17), (.ref s18), (.int line), (.int b27), (.null)]), (f15, oI "com/example/dalles/dalles/schema/Fill" sg_2 [(.ref a12), (.int (0 : Int32))]), (a12, oI "com/example/dalles/dalles/schema/Sequence" sg_1 [(.ref s13), (.ref s14)])]) (exa_new (i := 0) rfl) D_138 (hw _ (List.mem_of_getElem? (i := 89) rfl)) (hw _ (List.mem_of_getElem? (i := 90) rfl)) (hw _ (List.mem_of_getElem? (i := 92) rfl)) (hw _ (List.mem_of_getElem? (i := 92) rfl)) (hw _ (List.mem_of_getElem? (i := 91) rfl)) (hw _ (List.mem_of_getElem? (i := 44) rfl)) (hw _ (List.mem_of_getElem? (i := 93) rfl)) (by decide) pd_4 rfl rfl rfl (Nat.le_of_ble_eq_true rfl) (Nat.le_of_ble_eq_true rfl) (Nat.le_of_ble_eq_true rfl) (Nat.le_of_ble_eq_true rfl) ?_
          rintro _ _ ⟨rfl, rfl⟩
          show Wp (some none) l Z "com/example/dalles/dalles/schema/PostgreSqlColumnInheritDefaultPinLaw" "law" code maxLocals ret room_1 [(a19, oI "com/example/dalles/dalles/schema/PostgreSqlColumn" sg_3 [(.ref (pk aN aR x2 f15)), (.ref aE), (.ref s20), (.ref s21), (.int line), (.int (1 : Int32)), (.null)]), (a22, oI "com/example/dalles/dalles/schema/PostgreSqlColumn" sg_3 [(.ref aN), (.ref aE), (.ref s23), (.ref s24), (.int line), (.int (0 : Int32)), (.null)]), (a16, oI "com/example/dalles/dalles/schema/PostgreSqlColumn" sg_3 [(.ref b26), (.ref aE), (.ref s17), (.ref s18), (.int line), (.int b27), (.null)]), (f15, oI "com/example/dalles/dalles/schema/Fill" sg_2 [(.ref a12), (.int (0 : Int32))]), (a12, oI "com/example/dalles/dalles/schema/Sequence" sg_1 [(.ref s13), (.ref s14)])] 21 169 141 #[.val (.int flags), .val (.int line), .val (.int x1), .val (.int x2), .val (.int x3), .val (.int b5), .val (.int b9), .val (.ref a12), .val (.ref f15), .val (.ref a16), .val (.ref a19), .val (.ref a22), .unset, .unset] [] Q_law
          refine Wp.pick [1, 0, 2, 3, 4] (by decide) ?_
          show Wp (some none) l Z "com/example/dalles/dalles/schema/PostgreSqlColumnInheritDefaultPinLaw" "law" code maxLocals ret room_1 [(a22, oI "com/example/dalles/dalles/schema/PostgreSqlColumn" sg_3 [(.ref aN), (.ref aE), (.ref s23), (.ref s24), (.int line), (.int (0 : Int32)), (.null)]), (a19, oI "com/example/dalles/dalles/schema/PostgreSqlColumn" sg_3 [(.ref (pk aN aR x2 f15)), (.ref aE), (.ref s20), (.ref s21), (.int line), (.int (1 : Int32)), (.null)]), (a16, oI "com/example/dalles/dalles/schema/PostgreSqlColumn" sg_3 [(.ref b26), (.ref aE), (.ref s17), (.ref s18), (.int line), (.int b27), (.null)]), (f15, oI "com/example/dalles/dalles/schema/Fill" sg_2 [(.ref a12), (.int (0 : Int32))]), (a12, oI "com/example/dalles/dalles/schema/Sequence" sg_1 [(.ref s13), (.ref s14)])] 21 169 141 #[.val (.int flags), .val (.int line), .val (.int x1), .val (.int x2), .val (.int x3), .val (.int b5), .val (.int b9), .val (.ref a12), .val (.ref f15), .val (.ref a16), .val (.ref a19), .val (.ref a22), .unset, .unset] [] Q_law
          exact (J34 (pk aN aR x2 f15) (1 : Int32) (Or.inr ⟨h30, rfl, rfl⟩))
      refine wp_if_eq D_112 (pc'' := 126) ⟨by decide, by decide⟩ (fun h25 => ?_) (fun h25 => ?_)
      · skip
        exact (J29 aN (0 : Int32) (Or.inl ⟨h25, rfl, rfl⟩))
      · skip
        refine wp_aload D_115 rfl rfl ?_
        refine wp_iload_n D_117 rfl ?_
        refine wp_aload D_118 rfl rfl ?_
        refine wp_callS (c_pick l Z a0 hw x1 f15 aN aR [(a22, oI "com/example/dalles/dalles/schema/PostgreSqlColumn" sg_3 [(.ref aN), (.ref aE), (.ref s23), (.ref s24), (.int line), (.int (0 : Int32)), (.null)]), (a19, oI "com/example/dalles/dalles/schema/PostgreSqlColumn" sg_3 [(.ref aN), (.ref aE), (.ref s20), (.ref s21), (.int line), (.int (0 : Int32)), (.null)]), (a16, oI "com/example/dalles/dalles/schema/PostgreSqlColumn" sg_3 [(.ref aN), (.ref aE), (.ref s17), (.ref s18), (.int line), (.int (0 : Int32)), (.null)]), (f15, oI "com/example/dalles/dalles/schema/Fill" sg_2 [(.ref a12), (.int (0 : Int32))]), (a12, oI "com/example/dalles/dalles/schema/Sequence" sg_1 [(.ref s13), (.ref s14)])] S_N S_R) D_120 (hw _ (List.mem_of_getElem? (i := 83) rfl)) (hw _ (List.mem_of_getElem? (i := 84) rfl)) (hw _ (List.mem_of_getElem? (i := 85) rfl)) (hw _ (List.mem_of_getElem? (i := 86) rfl)) (by decide) pd_10 rfl rfl rfl (Nat.le_of_ble_eq_true rfl) (Nat.le_of_ble_eq_true rfl) (Nat.le_of_ble_eq_true rfl) (Nat.le_of_ble_eq_true rfl) ?_
        rintro _ _ ⟨rfl, rfl⟩
        show Wp (some none) l Z "com/example/dalles/dalles/schema/PostgreSqlColumnInheritDefaultPinLaw" "law" code maxLocals ret room_1 [(a22, oI "com/example/dalles/dalles/schema/PostgreSqlColumn" sg_3 [(.ref aN), (.ref aE), (.ref s23), (.ref s24), (.int line), (.int (0 : Int32)), (.null)]), (a19, oI "com/example/dalles/dalles/schema/PostgreSqlColumn" sg_3 [(.ref aN), (.ref aE), (.ref s20), (.ref s21), (.int line), (.int (0 : Int32)), (.null)]), (a16, oI "com/example/dalles/dalles/schema/PostgreSqlColumn" sg_3 [(.ref aN), (.ref aE), (.ref s17), (.ref s18), (.int line), (.int (0 : Int32)), (.null)]), (f15, oI "com/example/dalles/dalles/schema/Fill" sg_2 [(.ref a12), (.int (0 : Int32))]), (a12, oI "com/example/dalles/dalles/schema/Sequence" sg_1 [(.ref s13), (.ref s14)])] 21 169 123 #[.val (.int flags), .val (.int line), .val (.int x1), .val (.int x2), .val (.int x3), .val (.int b5), .val (.int b9), .val (.ref a12), .val (.ref f15), .val (.ref a16), .val (.ref a19), .val (.ref a22), .unset, .unset] [(.ref (pk aN aR x1 f15)), (.ref a16)] Q_law
        refine Wp.pick [2, 0, 1, 3, 4] (by decide) ?_
        show Wp (some none) l Z "com/example/dalles/dalles/schema/PostgreSqlColumnInheritDefaultPinLaw" "law" code maxLocals ret room_1 [(a16, oI "com/example/dalles/dalles/schema/PostgreSqlColumn" sg_3 [(.ref aN), (.ref aE), (.ref s17), (.ref s18), (.int line), (.int (0 : Int32)), (.null)]), (a22, oI "com/example/dalles/dalles/schema/PostgreSqlColumn" sg_3 [(.ref aN), (.ref aE), (.ref s23), (.ref s24), (.int line), (.int (0 : Int32)), (.null)]), (a19, oI "com/example/dalles/dalles/schema/PostgreSqlColumn" sg_3 [(.ref aN), (.ref aE), (.ref s20), (.ref s21), (.int line), (.int (0 : Int32)), (.null)]), (f15, oI "com/example/dalles/dalles/schema/Fill" sg_2 [(.ref a12), (.int (0 : Int32))]), (a12, oI "com/example/dalles/dalles/schema/Sequence" sg_1 [(.ref s13), (.ref s14)])] 21 169 123 #[.val (.int flags), .val (.int line), .val (.int x1), .val (.int x2), .val (.int x3), .val (.int b5), .val (.int b9), .val (.ref a12), .val (.ref f15), .val (.ref a16), .val (.ref a19), .val (.ref a22), .unset, .unset] [(.ref (pk aN aR x1 f15)), (.ref a16)] Q_law
        refine wp_virtual (c_set l Z a0 hw (pk aN aR x1 f15) a16 aN s17 s18 line (0 : Int32) (.null) aE [(a22, oI "com/example/dalles/dalles/schema/PostgreSqlColumn" sg_3 [(.ref aN), (.ref aE), (.ref s23), (.ref s24), (.int line), (.int (0 : Int32)), (.null)]), (a19, oI "com/example/dalles/dalles/schema/PostgreSqlColumn" sg_3 [(.ref aN), (.ref aE), (.ref s20), (.ref s21), (.int line), (.int (0 : Int32)), (.null)]), (f15, oI "com/example/dalles/dalles/schema/Fill" sg_2 [(.ref a12), (.int (0 : Int32))]), (a12, oI "com/example/dalles/dalles/schema/Sequence" sg_1 [(.ref s13), (.ref s14)])]) (exa_new (i := 0) rfl) D_123 (hw _ (List.mem_of_getElem? (i := 89) rfl)) (hw _ (List.mem_of_getElem? (i := 90) rfl)) (hw _ (List.mem_of_getElem? (i := 92) rfl)) (hw _ (List.mem_of_getElem? (i := 92) rfl)) (hw _ (List.mem_of_getElem? (i := 91) rfl)) (hw _ (List.mem_of_getElem? (i := 44) rfl)) (hw _ (List.mem_of_getElem? (i := 93) rfl)) (by decide) pd_4 rfl rfl rfl (Nat.le_of_ble_eq_true rfl) (Nat.le_of_ble_eq_true rfl) (Nat.le_of_ble_eq_true rfl) (Nat.le_of_ble_eq_true rfl) ?_
        rintro _ _ ⟨rfl, rfl⟩
        show Wp (some none) l Z "com/example/dalles/dalles/schema/PostgreSqlColumnInheritDefaultPinLaw" "law" code maxLocals ret room_1 [(a16, oI "com/example/dalles/dalles/schema/PostgreSqlColumn" sg_3 [(.ref (pk aN aR x1 f15)), (.ref aE), (.ref s17), (.ref s18), (.int line), (.int (1 : Int32)), (.null)]), (a22, oI "com/example/dalles/dalles/schema/PostgreSqlColumn" sg_3 [(.ref aN), (.ref aE), (.ref s23), (.ref s24), (.int line), (.int (0 : Int32)), (.null)]), (a19, oI "com/example/dalles/dalles/schema/PostgreSqlColumn" sg_3 [(.ref aN), (.ref aE), (.ref s20), (.ref s21), (.int line), (.int (0 : Int32)), (.null)]), (f15, oI "com/example/dalles/dalles/schema/Fill" sg_2 [(.ref a12), (.int (0 : Int32))]), (a12, oI "com/example/dalles/dalles/schema/Sequence" sg_1 [(.ref s13), (.ref s14)])] 21 169 126 #[.val (.int flags), .val (.int line), .val (.int x1), .val (.int x2), .val (.int x3), .val (.int b5), .val (.int b9), .val (.ref a12), .val (.ref f15), .val (.ref a16), .val (.ref a19), .val (.ref a22), .unset, .unset] [] Q_law
        refine Wp.pick [1, 2, 0, 3, 4] (by decide) ?_
        show Wp (some none) l Z "com/example/dalles/dalles/schema/PostgreSqlColumnInheritDefaultPinLaw" "law" code maxLocals ret room_1 [(a22, oI "com/example/dalles/dalles/schema/PostgreSqlColumn" sg_3 [(.ref aN), (.ref aE), (.ref s23), (.ref s24), (.int line), (.int (0 : Int32)), (.null)]), (a19, oI "com/example/dalles/dalles/schema/PostgreSqlColumn" sg_3 [(.ref aN), (.ref aE), (.ref s20), (.ref s21), (.int line), (.int (0 : Int32)), (.null)]), (a16, oI "com/example/dalles/dalles/schema/PostgreSqlColumn" sg_3 [(.ref (pk aN aR x1 f15)), (.ref aE), (.ref s17), (.ref s18), (.int line), (.int (1 : Int32)), (.null)]), (f15, oI "com/example/dalles/dalles/schema/Fill" sg_2 [(.ref a12), (.int (0 : Int32))]), (a12, oI "com/example/dalles/dalles/schema/Sequence" sg_1 [(.ref s13), (.ref s14)])] 21 169 126 #[.val (.int flags), .val (.int line), .val (.int x1), .val (.int x2), .val (.int x3), .val (.int b5), .val (.int b9), .val (.ref a12), .val (.ref f15), .val (.ref a16), .val (.ref a19), .val (.ref a22), .unset, .unset] [] Q_law
        exact (J29 (pk aN aR x1 f15) (1 : Int32) (Or.inr ⟨h25, rfl, rfl⟩))
    refine wp_if_eq D_39 (pc'' := 46) ⟨by decide, by decide⟩ (fun h8 => ?_) (fun h8 => ?_)
    · skip
      refine wp_iconst 0 D_46 (by decide) ?_
      exact (J11 (0 : Int32) (Or.inl ⟨h8, rfl⟩))
    · skip
      refine wp_iconst 1 D_42 (by decide) ?_
      refine wp_goto D_43 (pc'' := 47) ⟨by decide, by decide⟩ ?_
      exact (J11 (1 : Int32) (Or.inr ⟨h8, rfl⟩))
  refine wp_if_eq D_23 (pc'' := 30) ⟨by decide, by decide⟩ (fun h4 => ?_) (fun h4 => ?_)
  · skip
    refine wp_iconst 0 D_30 (by decide) ?_
    exact (J7 (0 : Int32) (Or.inl ⟨h4, rfl⟩))
  · skip
    refine wp_iconst 1 D_26 (by decide) ?_
    refine wp_goto D_27 (pc'' := 31) ⟨by decide, by decide⟩ ?_
    exact (J7 (1 : Int32) (Or.inr ⟨h4, rfl⟩))
set_option maxRecDepth 65536 in
set_option maxHeartbeats 40000000 in
theorem comes_1 {Post : Tables → Env → Array Value → State → Outcome → State → Prop} (hpost : ∀ tb e args s v u, (limb_1_1.after args s (.returned v) u = true ∧ limb_1_2.after args s (.returned v) u = true ∧ True) → ReturnedEndW s (.returned v) u (Jvm.fieldLocs frame_1_writes args s ++ Jvm.arrayLocs frame_1_arrays args s ++ Jvm.staticLocs frame_1_statics s) 32 4288 → Post tb e args s (.returned v) u) :
    ArmFor flags0 classFile x code maxLocals ret World_1 tables_1 room_1 Calls_1 rest_1 Pre_1 Post := by
  intro l hfl _ _ p e ha hc hk s m args below hf hA hF happ hP
  obtain ⟨hcalls, hrest, hpre⟩ := hP
  obtain ⟨-, -, -, hnamed, -, -, -, hat⟩ := (Spec.applies_iff hf).mp happ
  obtain ⟨hg, hn⟩ := and_e (Cond.before_iff.mp (show (Jvm.Cond.and given_1 narrow_1).before args s = true from hpre))
  obtain ⟨hcnt, hk0⟩ := and_e hg
  obtain ⟨hz0, hk1⟩ := and_e hk0
  have hz1 := hk1
  obtain ⟨w0, w1, rfl⟩ : ∃ w0 w1 : Value, args = #[w0, w1] := by
    have hs : args.size = 2 := by simpa [Cond.value, given_1] using hcnt
    obtain ⟨L⟩ := args
    match L, hs with
    | [w0, w1], _ => exact ⟨w0, w1, rfl⟩
  have hw := fun d (hd : d ∈ tables_1) => atoms_spec (ws := Jvm.Cond.code x code maxLocals ret :: tables_1) hat d (List.mem_cons_of_mem _ hd)
  have hfit : Fit s := fun {y c} hc i hi => by
    obtain ⟨ha, rfl⟩ := Array.getElem?_eq_some_iff.mp hc
    have q := List.all_eq_true.mp ((Array.all_eq_true_iff_forall_mem.mp hF) _ (Array.getElem_mem ha)) i (List.mem_range.mpr hi)
    simpa [Array.getElem?_eq_getElem hi] using q
  obtain ⟨flags, e0⟩ := is_v hz0
  obtain rfl : w0 = (.int flags) := Option.some.inj e0
  obtain ⟨line, e1⟩ := is_v hz1
  obtain rfl : w1 = (.int line) := Option.some.inj e1
  obtain ⟨n0, n_0⟩ := and_e hn
  have n1 := n_0
  obtain ⟨hsets, hown0⟩ := atoms_of _ (rest_1_c_eq ▸ (show rest_1_c.before _ s = true from hrest))
  obtain ⟨aN, S_aN, -, -⟩ := sta_of n0 (hw _ (List.mem_of_getElem? (i := 24) rfl)) (hw _ (List.mem_of_getElem? (i := 52) rfl))
  obtain ⟨aR, S_aR, -, -⟩ := sta_of n1 (hw _ (List.mem_of_getElem? (i := 24) rfl)) (hw _ (List.mem_of_getElem? (i := 88) rfl))
  obtain ⟨aE, eE⟩ := exa_v (Cond.before_iff.mp (hsets _ (List.mem_of_getElem? (i := 2) rfl)))
  have S_aE := Sta.start eE (Or.inl (hsets _ (List.mem_of_getElem? (i := 1) rfl)))
  have hm := (law_wp l s _ hw flags line aN aR aE S_aN S_aR S_aE)
  obtain ⟨n, o, h1, h2, h3, v, L, rfl, ⟨N, H', -, hQ⟩, hq⟩ := MetW.of_wp (y := x) (as' := [(.int flags), (.int line)]) pn_12 (fun m => by first | rfl | (simp [entryFrame, mkF, argsToLocals, Value.category, maxLocals]; done)) hm tables_1 s.heap (Hp.nil s) p e ha hc hk s m _ below hf ((Spec.applies_iff_loose hf).mp happ).1 ⟨rfl, State.Warmed39.refl s, rfl, fun Ts q => by first | (cases q; exact ⟨rfl, Jvm.RoadKit.IB.start⟩) | cases q⟩ trivial
  obtain rfl : v = some (.int 1) := hQ
  refine ⟨n, _, h1, h2, h3, hpost _ _ _ _ _ _ ⟨Cond.after_iff.mpr rfl, Cond.after_iff.mpr (eq_i res_at (Term.int_eval (1)) rfl), trivial⟩ ⟨hq.1, hq.2.1, hq.2.2.1, (hq.2.2.2.sift fun y hy => Or.inr (N y hy)).mono (by decide) (by decide)⟩⟩
theorem main_1_1 : Claimed_1_1 := comes_1 fun _ _ _ _ _ _ h hF => ⟨h.1, hF⟩
theorem main_1_2 : Claimed_1_2 := comes_1 fun _ _ _ _ _ _ h hF => ⟨h.2.1, hF⟩
end Jvm.Pilot.@@N@@
namespace Jvm.Pilot.@@N@@
open Jvm Jvm.ClassFile Sem Op Lib Jvm.Free Jvm.Stand Jvm.Pilot.@@N@@.Jvm.D
/-! MADE BY PROGRAM (witnessworld.py) out of the Statement's table words and the real class files: 18 classes; the members and pool entries that the words name. The judged class is class 1, her method 2. -/
namespace start1
open Jvm.ClassFile
def u (s : String) : CpInfo := .utf8 (stringToUtf16 s)
/-- a pool by its gaps: so many unusable entries, then the entry; so many at the end -/
def gap : Nat → List CpInfo → List CpInfo
  | 0, r => r
  | n + 1, r => .unusable :: gap n r
def poolList (es : List (Nat × CpInfo)) (last : Nat) : List CpInfo := es.foldr (fun e r => gap e.1 (e.2 :: r)) (gap last [])
def pool (es : List (Nat × CpInfo)) (last : Nat) : Array CpInfo := ⟨poolList es last⟩
def fileOf (pool : Array CpInfo) (this : Nat) (attrs : Array Attribute := #[]) (ms : Array MethodInfo := #[]) (fl : Nat := 33) (sup : Nat := 0) (ifs : Array Nat := #[]) (fds : Array FieldInfo := #[]) : ClassFile where
  minorVersion := 0
  majorVersion := 65
  constantPool := pool
  accessFlags := fl
  thisClass := this
  superClass := sup
  interfaces := ifs
  fields := fds
  methods := ms
  attributes := attrs
def plain (name : String) (sup : Option ClassId) : Class where
  name := name
  kind := .ordinary
  loader := none
  accessFlags := 33
  super := sup
  interfaces := #[]
  cf := none
  fields := #[]
  methods := #[]
  instanceTypes := #[]
  staticTypes := #[]
  resolved := #[]
  callSites := []
  init := .initialized
  statics := none
  mirror := none

def pool0 : Array CpInfo := pool [(5, u "<init>"), (0, u "()V"), (1, .class_ 10), (1, u "java/lang/Object")] 113

def k0c0 : Code := { maxStack := 0, maxLocals := 1, code := object_method_1_code, exceptionTable := #[], attributes := #[] }
def k0m0 : Method := { name := "<init>", desc := "()V", sig := { parameters := [], returnType := none }, accessFlags := 1, code := some k0c0 }
/-- java/lang/Object -/
def k0 : Class := { plain "java/lang/Object" none with
  accessFlags := 33
  interfaces := #[]
  cf := some (fileOf pool0 8 #[] #[{ accessFlags := 1, nameIndex := 5, descriptorIndex := 6, attributes := #[] }] 33 0 #[] #[])
  fields := #[]
  methods := #[k0m0]
  instanceTypes := #[]
  staticTypes := #[]
  resolved := Array.replicate 124 none
  statics := none }

def pool1 : Array CpInfo := pool [(2, .class_ 4), (1, u "java/lang/Object"), (0, u "<init>"), (0, u "()V"), (0, .fieldref 8 9), (0, .class_ 10), (0, .nameAndType 11 12), (0, u "com/example/dalles/dalles/schema/Fill"), (0, u "NONE"), (0, u "Lcom/example/dalles/dalles/schema/Fill;"), (0, .fieldref 8 14), (0, .nameAndType 15 12), (0, u "RANDOM_UUID"), (0, .class_ 17), (0, u "com/example/dalles/dalles/schema/Sequence"), (0, .string 19), (0, u "s.q"), (0, .string 21), (0, u "q"), (0, .methodref 16 23), (0, .nameAndType 5 24), (0, u "(Ljava/lang/String;Ljava/lang/String;)V"), (0, .methodref 8 26), (0, .nameAndType 27 28), (0, u "fromSequence"), (0, u "(Lcom/example/dalles/dalles/schema/Sequence;)Lcom/example/dalles/dalles/schema/Fill;"), (0, .class_ 30), (0, u "com/example/dalles/dalles/schema/PostgreSqlColumn"), (0, .string 32), (0, u "c"), (0, .string 34), (0, u "integer"), (0, .methodref 29 36), (0, .nameAndType 5 37), (0, u "(Ljava/lang/String;Ljava/lang/String;I)V"), (0, .methodref 39 40), (0, .class_ 41), (0, .nameAndType 42 43), (0, u "com/example/dalles/dalles/schema/PostgreSqlColumnInheritDefaultPinLaw"), (0, u "pick"), (0, u "(ILcom/example/dalles/dalles/schema/Fill;)Lcom/example/dalles/dalles/schema/Fill;"), (0, .methodref 29 45), (0, .nameAndType 46 47), (0, u "setDefault"), (0, u "(Lcom/example/dalles/dalles/schema/Fill;)V"), (0, .methodref 29 49), (0, .nameAndType 50 51), (0, u "makeIdentity"), (0, u "(Lcom/example/dalles/dalles/schema/Sequence;)V"), (0, .methodref 29 53), (0, .nameAndType 54 55), (0, u "inheritDefault"), (0, u "(Lcom/example/dalles/dalles/schema/PostgreSqlColumn;)V"), (0, .methodref 29 57), (0, .nameAndType 58 59), (0, u "fill"), (0, u "()Lcom/example/dalles/dalles/schema/Fill;"), (3, u "law"), (0, u "(II)Z")] 2

def k1m0 : Method := { name := "<init>", desc := "()V", sig := { parameters := [], returnType := none }, accessFlags := 1, code := none }
def k1c1 : Code := { maxStack := 2, maxLocals := 2, code := method_2_code, exceptionTable := #[], attributes := #[] }
def k1m1 : Method := { name := "pick", desc := "(ILcom/example/dalles/dalles/schema/Fill;)Lcom/example/dalles/dalles/schema/Fill;", sig := { parameters := [.int, (.object "com/example/dalles/dalles/schema/Fill")], returnType := some (.object "com/example/dalles/dalles/schema/Fill") }, accessFlags := 10, code := some k1c1 }
def k1c2 : Code := { maxStack := 5, maxLocals := 14, code := code, exceptionTable := #[], attributes := #[] }
def k1m2 : Method := { name := "law", desc := "(II)Z", sig := { parameters := [.int, .int], returnType := some .boolean }, accessFlags := 9, code := some k1c2 }
/-- com/example/dalles/dalles/schema/PostgreSqlColumnInheritDefaultPinLaw -/
def k1 : Class := { plain "com/example/dalles/dalles/schema/PostgreSqlColumnInheritDefaultPinLaw" (some 0) with
  accessFlags := 49
  interfaces := #[]
  cf := some (fileOf pool1 39 #[] #[{ accessFlags := 1, nameIndex := 5, descriptorIndex := 6, attributes := #[] }, { accessFlags := 10, nameIndex := 42, descriptorIndex := 43, attributes := #[] }, { accessFlags := 9, nameIndex := 63, descriptorIndex := 64, attributes := #[] }] 49 2 #[] #[])
  fields := #[]
  methods := #[k1m0, k1m1, k1m2]
  instanceTypes := #[]
  staticTypes := #[]
  resolved := Array.replicate 67 none
  statics := none }

def pool2 : Array CpInfo := pool [(1, .methodref 2 3), (0, .class_ 4), (0, .nameAndType 5 6), (0, u "java/lang/Object"), (0, u "<init>"), (0, u "()V"), (0, .fieldref 8 9), (0, .class_ 10), (0, .nameAndType 11 12), (0, u "com/example/dalles/dalles/schema/Sequence"), (0, u "qualifiedName"), (0, u "Ljava/lang/String;"), (0, .fieldref 8 14), (0, .nameAndType 15 12), (0, u "name"), (12, u "(Ljava/lang/String;Ljava/lang/String;)V")] 10

def k2c0 : Code := { maxStack := 2, maxLocals := 3, code := prog_55_method_1_code, exceptionTable := #[], attributes := #[] }
def k2m0 : Method := { name := "<init>", desc := "(Ljava/lang/String;Ljava/lang/String;)V", sig := { parameters := [(.object "java/lang/String"), (.object "java/lang/String")], returnType := none }, accessFlags := 0, code := some k2c0 }
/-- com/example/dalles/dalles/schema/Sequence -/
def k2 : Class := { plain "com/example/dalles/dalles/schema/Sequence" (some 0) with
  accessFlags := 49
  interfaces := #[]
  cf := some (fileOf pool2 8 #[] #[{ accessFlags := 0, nameIndex := 5, descriptorIndex := 28, attributes := #[] }] 49 2 #[] #[{ accessFlags := 18, nameIndex := 11, descriptorIndex := 12, attributes := #[] }, { accessFlags := 18, nameIndex := 15, descriptorIndex := 12, attributes := #[] }])
  fields := #[{ name := "qualifiedName", type := (.object "java/lang/String"), accessFlags := 18, slot := 0, constantValue := 0 }, { name := "name", type := (.object "java/lang/String"), accessFlags := 18, slot := 1, constantValue := 0 }]
  methods := #[k2m0]
  instanceTypes := #[(.object "java/lang/String"), (.object "java/lang/String")]
  staticTypes := #[]
  resolved := Array.replicate 39 none
  statics := none }

def pool3 : Array CpInfo := pool [(1, .class_ 2), (0, u "java/io/Serializable"), (0, .class_ 4), (0, u "java/lang/Object")] 2

/-- java/io/Serializable -/
def k3 : Class := { plain "java/io/Serializable" (some 0) with
  accessFlags := 1537
  interfaces := #[]
  cf := some (fileOf pool3 1 #[] #[] 1537 3 #[] #[])
  fields := #[]
  methods := #[]
  instanceTypes := #[]
  staticTypes := #[]
  resolved := Array.replicate 7 none
  statics := none }

def pool4 : Array CpInfo := pool [(1, .class_ 2), (0, u "java/lang/Comparable"), (0, .class_ 4), (0, u "java/lang/Object")] 7

/-- java/lang/Comparable -/
def k4 : Class := { plain "java/lang/Comparable" (some 0) with
  accessFlags := 1537
  interfaces := #[]
  cf := some (fileOf pool4 1 #[] #[] 1537 3 #[] #[])
  fields := #[]
  methods := #[]
  instanceTypes := #[]
  staticTypes := #[]
  resolved := Array.replicate 12 none
  statics := none }

def pool5 : Array CpInfo := pool [(2, .class_ 4), (1, u "java/lang/CharSequence"), (42, .class_ 48), (0, u "java/lang/CharSequence$1CodePointIterator"), (10, .class_ 60), (0, u "java/lang/CharSequence$1CharIterator"), (5, .class_ 67), (0, u "java/lang/Object")] 63

/-- java/lang/CharSequence -/
def k5 : Class := { plain "java/lang/CharSequence" (some 0) with
  accessFlags := 1537
  interfaces := #[]
  cf := some (fileOf pool5 2 #[.nestMembers #[47, 59]] #[] 1537 66 #[] #[])
  fields := #[]
  methods := #[]
  instanceTypes := #[]
  staticTypes := #[]
  resolved := Array.replicate 131 none
  statics := none }

def pool6 : Array CpInfo := pool [(1, .class_ 2), (0, u "java/lang/constant/Constable"), (0, .class_ 4), (0, u "java/lang/Object")] 6

/-- java/lang/constant/Constable -/
def k6 : Class := { plain "java/lang/constant/Constable" (some 0) with
  accessFlags := 1537
  interfaces := #[]
  cf := some (fileOf pool6 1 #[] #[] 1537 3 #[] #[])
  fields := #[]
  methods := #[]
  instanceTypes := #[]
  staticTypes := #[]
  resolved := Array.replicate 11 none
  statics := none }

def pool7 : Array CpInfo := pool [(1, .class_ 2), (0, u "java/lang/constant/ConstantDesc"), (0, .class_ 4), (0, u "java/lang/Object")] 32

/-- java/lang/constant/ConstantDesc -/
def k7 : Class := { plain "java/lang/constant/ConstantDesc" (some 0) with
  accessFlags := 1537
  interfaces := #[]
  cf := some (fileOf pool7 1 #[] #[] 1537 3 #[] #[])
  fields := #[]
  methods := #[]
  instanceTypes := #[]
  staticTypes := #[]
  resolved := Array.replicate 37 none
  statics := none }

def pool8 : Array CpInfo := pool [(2, .class_ 4), (1, u "java/lang/Object"), (0, u "<init>"), (0, u "()V"), (3, .class_ 12), (1, u "java/lang/String"), (0, u "value"), (0, u "[B"), (2, u "coder"), (0, u "B"), (2, u "hash"), (0, u "I"), (2, u "hashIsZero"), (0, u "Z"), (13, u "COMPACT_STRINGS"), (534, .class_ 576), (0, u "java/lang/CharSequence"), (22, u "CASE_INSENSITIVE_ORDER"), (0, u "Ljava/util/Comparator;"), (500, u "serialPersistentFields"), (0, u "[Ljava/io/ObjectStreamField;"), (0, .class_ 1104), (0, u "java/lang/String$CaseInsensitiveComparator"), (1, .class_ 1107), (0, u "java/io/Serializable"), (0, .class_ 1109), (0, u "java/lang/Comparable"), (0, .class_ 1111), (0, u "java/lang/constant/Constable"), (0, .class_ 1113), (0, u "java/lang/constant/ConstantDesc"), (2, u "serialVersionUID"), (0, u "J"), (3, u "REPL"), (0, u "C"), (2, u "LATIN1"), (1, u "UTF16")] 323

def k8m0 : Method := { name := "<init>", desc := "()V", sig := { parameters := [], returnType := none }, accessFlags := 1, code := none }
/-- java/lang/String -/
def k8 : Class := { plain "java/lang/String" (some 0) with
  accessFlags := 49
  interfaces := #[3, 4, 5, 6, 7]
  cf := some (fileOf pool8 10 #[.nestMembers #[1103]] #[{ accessFlags := 1, nameIndex := 5, descriptorIndex := 6, attributes := #[] }] 49 2 #[1106, 1108, 575, 1110, 1112] #[{ accessFlags := 18, nameIndex := 13, descriptorIndex := 14, attributes := #[] }, { accessFlags := 18, nameIndex := 17, descriptorIndex := 18, attributes := #[] }, { accessFlags := 2, nameIndex := 21, descriptorIndex := 22, attributes := #[] }, { accessFlags := 2, nameIndex := 25, descriptorIndex := 26, attributes := #[] }, { accessFlags := 26, nameIndex := 1116, descriptorIndex := 1117, attributes := #[] }, { accessFlags := 24, nameIndex := 40, descriptorIndex := 26, attributes := #[] }, { accessFlags := 26, nameIndex := 1101, descriptorIndex := 1102, attributes := #[] }, { accessFlags := 26, nameIndex := 1121, descriptorIndex := 1122, attributes := #[] }, { accessFlags := 25, nameIndex := 599, descriptorIndex := 600, attributes := #[] }, { accessFlags := 24, nameIndex := 1125, descriptorIndex := 18, attributes := #[] }, { accessFlags := 24, nameIndex := 1127, descriptorIndex := 18, attributes := #[] }])
  fields := #[{ name := "value", type := (.array .byte), accessFlags := 18, slot := 0, constantValue := 0 }, { name := "coder", type := .byte, accessFlags := 18, slot := 1, constantValue := 0 }, { name := "hash", type := .int, accessFlags := 2, slot := 2, constantValue := 0 }, { name := "hashIsZero", type := .boolean, accessFlags := 2, slot := 3, constantValue := 0 }, { name := "serialVersionUID", type := .long, accessFlags := 26, slot := 0, constantValue := 0 }, { name := "COMPACT_STRINGS", type := .boolean, accessFlags := 24, slot := 1, constantValue := 0 }, { name := "serialPersistentFields", type := (.array (.object "java/io/ObjectStreamField")), accessFlags := 26, slot := 2, constantValue := 0 }, { name := "REPL", type := .char, accessFlags := 26, slot := 3, constantValue := 0 }, { name := "CASE_INSENSITIVE_ORDER", type := (.object "java/util/Comparator"), accessFlags := 25, slot := 4, constantValue := 0 }, { name := "LATIN1", type := .byte, accessFlags := 24, slot := 5, constantValue := 0 }, { name := "UTF16", type := .byte, accessFlags := 24, slot := 6, constantValue := 0 }]
  methods := #[k8m0]
  instanceTypes := #[(.array .byte), .byte, .int, .boolean]
  staticTypes := #[.long, .boolean, (.array (.object "java/io/ObjectStreamField")), .char, (.object "java/util/Comparator"), .byte, .byte]
  resolved := Array.replicate 1451 none
  statics := none }

def pool9 : Array CpInfo := pool [(1, .methodref 2 3), (0, .class_ 4), (0, .nameAndType 5 6), (0, u "java/lang/Object"), (0, u "<init>"), (0, u "()V"), (0, .fieldref 8 9), (0, .class_ 10), (0, .nameAndType 11 12), (0, u "com/example/dalles/dalles/schema/Fill"), (0, u "sequence"), (0, u "Lcom/example/dalles/dalles/schema/Sequence;"), (0, .fieldref 8 14), (0, .nameAndType 15 16), (0, u "randomUuid"), (0, u "Z"), (0, .methodref 18 19), (0, .class_ 20), (0, .nameAndType 21 22), (0, u "java/util/Objects"), (0, u "requireNonNull"), (0, u "(Ljava/lang/Object;)Ljava/lang/Object;"), (0, .class_ 24), (0, u "com/example/dalles/dalles/schema/Sequence"), (0, .methodref 8 26), (0, .nameAndType 5 27), (0, u "(Lcom/example/dalles/dalles/schema/Sequence;Z)V"), (8, u "NONE"), (0, u "Lcom/example/dalles/dalles/schema/Fill;"), (2, u "RANDOM_UUID"), (2, u "fromSequence"), (0, u "(Lcom/example/dalles/dalles/schema/Sequence;)Lcom/example/dalles/dalles/schema/Fill;")] 9

def k9c0 : Code := { maxStack := 2, maxLocals := 3, code := prog_24_method_1_code, exceptionTable := #[], attributes := #[] }
def k9m0 : Method := { name := "<init>", desc := "(Lcom/example/dalles/dalles/schema/Sequence;Z)V", sig := { parameters := [(.object "com/example/dalles/dalles/schema/Sequence"), .boolean], returnType := none }, accessFlags := 2, code := some k9c0 }
def k9c1 : Code := { maxStack := 4, maxLocals := 1, code := prog_24_method_2_code, exceptionTable := #[], attributes := #[] }
def k9m1 : Method := { name := "fromSequence", desc := "(Lcom/example/dalles/dalles/schema/Sequence;)Lcom/example/dalles/dalles/schema/Fill;", sig := { parameters := [(.object "com/example/dalles/dalles/schema/Sequence")], returnType := some (.object "com/example/dalles/dalles/schema/Fill") }, accessFlags := 9, code := some k9c1 }
/-- com/example/dalles/dalles/schema/Fill -/
def k9 : Class := { plain "com/example/dalles/dalles/schema/Fill" (some 0) with
  accessFlags := 49
  interfaces := #[]
  cf := some (fileOf pool9 8 #[] #[{ accessFlags := 2, nameIndex := 5, descriptorIndex := 27, attributes := #[] }, { accessFlags := 9, nameIndex := 43, descriptorIndex := 44, attributes := #[] }] 49 2 #[] #[{ accessFlags := 25, nameIndex := 36, descriptorIndex := 37, attributes := #[] }, { accessFlags := 25, nameIndex := 40, descriptorIndex := 37, attributes := #[] }, { accessFlags := 18, nameIndex := 11, descriptorIndex := 12, attributes := #[] }, { accessFlags := 18, nameIndex := 15, descriptorIndex := 16, attributes := #[] }])
  fields := #[{ name := "NONE", type := (.object "com/example/dalles/dalles/schema/Fill"), accessFlags := 25, slot := 0, constantValue := 0 }, { name := "RANDOM_UUID", type := (.object "com/example/dalles/dalles/schema/Fill"), accessFlags := 25, slot := 1, constantValue := 0 }, { name := "sequence", type := (.object "com/example/dalles/dalles/schema/Sequence"), accessFlags := 18, slot := 0, constantValue := 0 }, { name := "randomUuid", type := .boolean, accessFlags := 18, slot := 1, constantValue := 0 }]
  methods := #[k9m0, k9m1]
  instanceTypes := #[(.object "com/example/dalles/dalles/schema/Sequence"), .boolean]
  staticTypes := #[(.object "com/example/dalles/dalles/schema/Fill"), (.object "com/example/dalles/dalles/schema/Fill")]
  resolved := Array.replicate 54 none
  statics := some 0 }

def pool10 : Array CpInfo := pool [(2, .class_ 4), (1, u "java/lang/Object"), (0, u "<init>"), (0, u "()V"), (35, .class_ 44), (1, u "java/util/Objects"), (0, u "requireNonNull"), (0, u "(Ljava/lang/Object;)Ljava/lang/Object;")] 137

def k10m0 : Method := { name := "<init>", desc := "()V", sig := { parameters := [], returnType := none }, accessFlags := 2, code := none }
def k10c1 : Code := { maxStack := 2, maxLocals := 1, code := jdk_31_method_10_code, exceptionTable := #[], attributes := #[] }
def k10m1 : Method := { name := "requireNonNull", desc := "(Ljava/lang/Object;)Ljava/lang/Object;", sig := { parameters := [(.object "java/lang/Object")], returnType := some (.object "java/lang/Object") }, accessFlags := 9, code := some k10c1 }
/-- java/util/Objects -/
def k10 : Class := { plain "java/util/Objects" (some 0) with
  accessFlags := 49
  interfaces := #[]
  cf := some (fileOf pool10 42 #[] #[{ accessFlags := 2, nameIndex := 5, descriptorIndex := 6, attributes := #[] }, { accessFlags := 9, nameIndex := 45, descriptorIndex := 46, attributes := #[] }] 49 2 #[] #[])
  fields := #[]
  methods := #[k10m0, k10m1]
  instanceTypes := #[]
  staticTypes := #[]
  resolved := Array.replicate 184 none
  statics := none }

def pool11 : Array CpInfo := pool [(1, .methodref 2 3), (0, .class_ 4), (0, .nameAndType 5 6), (0, u "java/lang/Object"), (0, u "<init>"), (0, u "()V"), (0, .fieldref 8 9), (0, .class_ 10), (0, .nameAndType 11 12), (0, u "com/example/dalles/dalles/schema/Fill"), (0, u "NONE"), (0, u "Lcom/example/dalles/dalles/schema/Fill;"), (0, .fieldref 14 15), (0, .class_ 16), (0, .nameAndType 17 12), (0, u "com/example/dalles/dalles/schema/PostgreSqlColumn"), (0, u "defaultFill"), (0, .methodref 19 20), (0, .class_ 21), (0, .nameAndType 22 23), (0, u "java/util/Optional"), (0, u "empty"), (0, u "()Ljava/util/Optional;"), (0, .fieldref 14 25), (0, .nameAndType 26 27), (0, u "highestValue"), (0, u "Ljava/util/Optional;"), (0, .fieldref 14 29), (0, .nameAndType 30 31), (0, u "name"), (0, u "Ljava/lang/String;"), (0, .fieldref 14 33), (0, .nameAndType 34 31), (0, u "type"), (0, .fieldref 14 36), (0, .nameAndType 37 38), (0, u "line"), (0, u "I"), (0, .fieldref 14 40), (0, .nameAndType 41 42), (0, u "hasDefault"), (0, u "Z"), (0, .fieldref 14 44), (0, .nameAndType 45 46), (0, u "identity"), (0, u "Lcom/example/dalles/dalles/schema/Sequence;"), (10, .methodref 8 58), (0, .nameAndType 59 60), (0, u "fromSequence"), (0, u "(Lcom/example/dalles/dalles/schema/Sequence;)Lcom/example/dalles/dalles/schema/Fill;"), (2, u "(Ljava/lang/String;Ljava/lang/String;I)V"), (2, u "inheritDefault"), (0, u "(Lcom/example/dalles/dalles/schema/PostgreSqlColumn;)V"), (0, .methodref 14 69), (0, .nameAndType 70 71), (0, u "setDefault"), (0, u "(Lcom/example/dalles/dalles/schema/Fill;)V"), (10, u "TIME_TYPES"), (0, u "Ljava/util/Set;"), (8, u "fill"), (0, u "()Lcom/example/dalles/dalles/schema/Fill;"), (12, u "TIMESTAMP"), (1, u "TIMESTAMPTZ"), (8, u "makeIdentity"), (0, u "(Lcom/example/dalles/dalles/schema/Sequence;)V")] 12

def k11c0 : Code := { maxStack := 2, maxLocals := 4, code := prog_46_method_1_code, exceptionTable := #[], attributes := #[] }
def k11m0 : Method := { name := "<init>", desc := "(Ljava/lang/String;Ljava/lang/String;I)V", sig := { parameters := [(.object "java/lang/String"), (.object "java/lang/String"), .int], returnType := none }, accessFlags := 0, code := some k11c0 }
def k11c1 : Code := { maxStack := 2, maxLocals := 2, code := prog_46_method_4_code, exceptionTable := #[], attributes := #[] }
def k11m1 : Method := { name := "setDefault", desc := "(Lcom/example/dalles/dalles/schema/Fill;)V", sig := { parameters := [(.object "com/example/dalles/dalles/schema/Fill")], returnType := none }, accessFlags := 0, code := some k11c1 }
def k11c2 : Code := { maxStack := 2, maxLocals := 2, code := prog_46_method_5_code, exceptionTable := #[], attributes := #[] }
def k11m2 : Method := { name := "makeIdentity", desc := "(Lcom/example/dalles/dalles/schema/Sequence;)V", sig := { parameters := [(.object "com/example/dalles/dalles/schema/Sequence")], returnType := none }, accessFlags := 0, code := some k11c2 }
def k11c3 : Code := { maxStack := 1, maxLocals := 1, code := prog_46_method_8_code, exceptionTable := #[], attributes := #[] }
def k11m3 : Method := { name := "fill", desc := "()Lcom/example/dalles/dalles/schema/Fill;", sig := { parameters := [], returnType := some (.object "com/example/dalles/dalles/schema/Fill") }, accessFlags := 0, code := some k11c3 }
def k11c4 : Code := { maxStack := 2, maxLocals := 2, code := prog_46_method_10_code, exceptionTable := #[], attributes := #[] }
def k11m4 : Method := { name := "inheritDefault", desc := "(Lcom/example/dalles/dalles/schema/PostgreSqlColumn;)V", sig := { parameters := [(.object "com/example/dalles/dalles/schema/PostgreSqlColumn")], returnType := none }, accessFlags := 0, code := some k11c4 }
/-- com/example/dalles/dalles/schema/PostgreSqlColumn -/
def k11 : Class := { plain "com/example/dalles/dalles/schema/PostgreSqlColumn" (some 0) with
  accessFlags := 48
  interfaces := #[]
  cf := some (fileOf pool11 14 #[] #[{ accessFlags := 0, nameIndex := 5, descriptorIndex := 63, attributes := #[] }, { accessFlags := 0, nameIndex := 70, descriptorIndex := 71, attributes := #[] }, { accessFlags := 0, nameIndex := 117, descriptorIndex := 118, attributes := #[] }, { accessFlags := 0, nameIndex := 92, descriptorIndex := 93, attributes := #[] }, { accessFlags := 0, nameIndex := 66, descriptorIndex := 67, attributes := #[] }] 48 2 #[] #[{ accessFlags := 24, nameIndex := 106, descriptorIndex := 31, attributes := #[] }, { accessFlags := 24, nameIndex := 108, descriptorIndex := 31, attributes := #[] }, { accessFlags := 26, nameIndex := 82, descriptorIndex := 83, attributes := #[] }, { accessFlags := 18, nameIndex := 30, descriptorIndex := 31, attributes := #[] }, { accessFlags := 18, nameIndex := 34, descriptorIndex := 31, attributes := #[] }, { accessFlags := 18, nameIndex := 37, descriptorIndex := 38, attributes := #[] }, { accessFlags := 2, nameIndex := 41, descriptorIndex := 42, attributes := #[] }, { accessFlags := 2, nameIndex := 17, descriptorIndex := 12, attributes := #[] }, { accessFlags := 2, nameIndex := 45, descriptorIndex := 46, attributes := #[] }, { accessFlags := 2, nameIndex := 26, descriptorIndex := 27, attributes := #[] }])
  fields := #[{ name := "TIMESTAMP", type := (.object "java/lang/String"), accessFlags := 24, slot := 0, constantValue := 0 }, { name := "TIMESTAMPTZ", type := (.object "java/lang/String"), accessFlags := 24, slot := 1, constantValue := 0 }, { name := "TIME_TYPES", type := (.object "java/util/Set"), accessFlags := 26, slot := 2, constantValue := 0 }, { name := "name", type := (.object "java/lang/String"), accessFlags := 18, slot := 0, constantValue := 0 }, { name := "type", type := (.object "java/lang/String"), accessFlags := 18, slot := 1, constantValue := 0 }, { name := "line", type := .int, accessFlags := 18, slot := 2, constantValue := 0 }, { name := "hasDefault", type := .boolean, accessFlags := 2, slot := 3, constantValue := 0 }, { name := "defaultFill", type := (.object "com/example/dalles/dalles/schema/Fill"), accessFlags := 2, slot := 4, constantValue := 0 }, { name := "identity", type := (.object "com/example/dalles/dalles/schema/Sequence"), accessFlags := 2, slot := 5, constantValue := 0 }, { name := "highestValue", type := (.object "java/util/Optional"), accessFlags := 2, slot := 6, constantValue := 0 }]
  methods := #[k11m0, k11m1, k11m2, k11m3, k11m4]
  instanceTypes := #[(.object "java/lang/String"), (.object "java/lang/String"), .int, .boolean, (.object "com/example/dalles/dalles/schema/Fill"), (.object "com/example/dalles/dalles/schema/Sequence"), (.object "java/util/Optional")]
  staticTypes := #[(.object "java/lang/String"), (.object "java/lang/String"), (.object "java/util/Set")]
  resolved := Array.replicate 131 none
  statics := none }

def pool12 : Array CpInfo := pool [(1, .fieldref 2 3), (0, .class_ 4), (0, .nameAndType 5 6), (0, u "java/util/Optional"), (0, u "EMPTY"), (0, u "Ljava/util/Optional;"), (1, .class_ 10), (1, u "java/lang/Object"), (4, u "value"), (0, u "Ljava/lang/Object;"), (38, u "empty"), (0, u "()Ljava/util/Optional;")] 130

def k12c0 : Code := { maxStack := 1, maxLocals := 1, code := jdk_32_method_1_code, exceptionTable := #[], attributes := #[] }
def k12m0 : Method := { name := "empty", desc := "()Ljava/util/Optional;", sig := { parameters := [], returnType := some (.object "java/util/Optional") }, accessFlags := 9, code := some k12c0 }
/-- java/util/Optional -/
def k12 : Class := { plain "java/util/Optional" (some 0) with
  accessFlags := 49
  interfaces := #[]
  cf := some (fileOf pool12 2 #[] #[{ accessFlags := 9, nameIndex := 55, descriptorIndex := 56, attributes := #[] }] 49 8 #[] #[{ accessFlags := 26, nameIndex := 5, descriptorIndex := 6, attributes := #[] }, { accessFlags := 18, nameIndex := 15, descriptorIndex := 16, attributes := #[] }])
  fields := #[{ name := "EMPTY", type := (.object "java/util/Optional"), accessFlags := 26, slot := 0, constantValue := 0 }, { name := "value", type := (.object "java/lang/Object"), accessFlags := 18, slot := 0, constantValue := 0 }]
  methods := #[k12m0]
  instanceTypes := #[(.object "java/lang/Object")]
  staticTypes := #[(.object "java/util/Optional")]
  resolved := Array.replicate 187 none
  statics := some 1 }

def pool13 : Array CpInfo := pool [(1, u "java/lang/Cloneable"), (0, .class_ 1), (0, u "java/lang/Object"), (0, .class_ 3)] 3

/-- java/lang/Cloneable -/
def k13 : Class := { plain "java/lang/Cloneable" (some 0) with
  accessFlags := 1537
  interfaces := #[]
  cf := some (fileOf pool13 2 #[] #[] 1537 4 #[] #[])
  fields := #[]
  methods := #[]
  instanceTypes := #[]
  staticTypes := #[]
  resolved := Array.replicate 8 none
  statics := none }

/-- the primitive byte -/
def k14 : Class := { plain "byte" none with kind := .primitive 'B', accessFlags := 0x411 }
/-- [B -/
def k15 : Class := { plain "[B" (some 0) with kind := .array 14 .byte, interfaces := #[13, 3], accessFlags := 1041 }

/-- the primitive int -/
def k16 : Class := { plain "int" none with kind := .primitive 'I', accessFlags := 0x411 }
/-- [I -/
def k17 : Class := { plain "[I" (some 0) with kind := .array 16 .int, interfaces := #[13, 3], accessFlags := 1041 }

def heap : Heap := #[{ cls := 9, slots := #[.ref 2, .ref 3], vm := .statics 9 },
  { cls := 12, slots := #[.ref 4], vm := .statics 12 },
  { cls := 9, slots := #[.null, .int 0], vm := .none },
  { cls := 9, slots := #[.null, .int 0], vm := .none },
  { cls := 12, slots := #[.null], vm := .none }]
def classes : Array Class := #[k0, k1, k2, k3, k4, k5, k6, k7, k8, k9, k10, k11, k12, k13, k14, k15, k16, k17]
def interned : List (Array UInt16 × Addr) := []
def slotsUsed : Nat := 8
def theMethod : MethodId := ⟨1, 2⟩
def args0 : Array Value := #[.int 5, .int 3]
def aboutOver (below : List Frame) : State where
  vm := { classes := classes, interned := interned.toArray }
  heap := heap
  slotsUsed := slotsUsed
  threads := #[{ frames := .invoking theMethod args0 :: below }]
def below0 : List Frame := [.native { method := ⟨0, 0⟩, args := #[] }]
def about1 : State := aboutOver below0
def p0 : Program := .bare "" "" ""
def e0 : Env := launch0.env 0 0 0
theorem w_frames : about1.frames = Frame.invoking theMethod args0 :: below0 := rfl
set_option maxRecDepth 65536 in
theorem w_args : argsFit about1.vm theMethod args0 = true := by decide +kernel
set_option maxRecDepth 65536 in
theorem w_heap : heapFits about1 = true := by decide +kernel
set_option maxRecDepth 65536 in
theorem w_runnable : about1.curStatus? = some .runnable := by decide +kernel
set_option maxRecDepth 65536 in
theorem w_alone : about1.alone = true := by decide +kernel
set_option maxRecDepth 65536 in
theorem w_named : about1.methodNamed? x = some theMethod := by decide +kernel
set_option maxRecDepth 65536 in
theorem w_hears : about1.hears theMethod below0 = true := by decide +kernel
set_option maxRecDepth 65536 in
theorem w_ripe : about1.ripe theMethod args0 below0 = true := by decide +kernel
theorem w_running : about1.status = .running := rfl
set_option maxRecDepth 65536 in
theorem w_room : about1.hasRoom e0.platform room_1 = true :=
  launch0.hasRoom_least _ room_1 (by decide +kernel) (by decide +kernel) (by decide +kernel) (by decide +kernel) (by decide +kernel) (by decide +kernel)
theorem allAtoms_all (ts : List Jvm.Cond) (a : Array Jvm.Value) (st : Jvm.State) : (allAtoms ts).before a st = ts.all (fun c => c.before a st) := by
  induction ts with
  | nil => rfl
  | cons c t ih =>
    show (Jvm.Cond.and c (allAtoms t)).before a st = _
    rw [Jvm.Cond.before_and, ih, List.all_cons]
def words1 : List Jvm.Cond := Jvm.Cond.code x code maxLocals ret :: tables_1
/-- a 'code' word, met by the world's own term for the bytes: nothing is compared byte by byte -/
theorem code_word {y : MethodName} {bytes : ByteArray} {mx : Nat} {rt : Option FieldType} {a : Array Value} {s : State} {m : MethodId} {meth : Method} {c : Code} (h1 : s.methodNamed? y = some m) (h2 : s.vm.method? m = some meth) (h3 : meth.code = some c) (h4 : c.code = bytes)
    (h5 : (c.maxLocals == mx && c.exceptionTable.isEmpty && decide (c.maxStack ≤ mostOperands) && decide (meth.sig.returnType = rt) && !meth.locks && decide (parseMethodDescriptor y.desc = some meth.sig)) = true) : (Jvm.Cond.code y bytes mx rt).before a s = true := by
  simp only [Bool.and_eq_true, beq_iff_eq, Bool.not_eq_true', decide_eq_true_eq] at h5
  obtain ⟨⟨⟨⟨⟨g1, g2⟩, g3⟩, g4⟩, g5⟩, g6⟩ := h5
  simp [Cond.before, Cond.holds, Cond.value, h1, h2, h3, h4, g1, g2, g3, g4, g5, g6]
def isCode : Jvm.Cond → Bool
  | .code _ _ _ _ => true
  | _ => false
theorem all_split {L : List Jvm.Cond} {P : Jvm.Cond → Bool} (h1 : L.all (fun c => isCode c || P c) = true) (h2 : ∀ c ∈ L.filter isCode, P c = true) : L.all P = true := by
  refine List.all_eq_true.mpr fun c hc => ?_
  have h := List.all_eq_true.mp h1 c hc
  rcases Bool.eq_false_or_eq_true (isCode c) with hi | hi
  · exact h2 c (List.mem_filter.mpr ⟨hc, hi⟩)
  · simpa [hi] using h
set_option maxRecDepth 65536 in
theorem w_c0 : (Jvm.Cond.code x code maxLocals ret).before args0 about1 = true := code_word (m := ⟨1, 2⟩) (meth := k1m2) (c := k1c2) (by decide +kernel) rfl rfl rfl (by decide +kernel)
set_option maxRecDepth 65536 in
theorem w_c1 : (Jvm.Cond.code ({ cls := "com/example/dalles/dalles/schema/Sequence", name := "<init>", desc := "(Ljava/lang/String;Ljava/lang/String;)V" } : Jvm.MethodName) prog_55_method_1_code (3 : Nat) (Option.none : Option Jvm.ClassFile.FieldType)).before args0 about1 = true := code_word (m := ⟨2, 0⟩) (meth := k2m0) (c := k2c0) (by decide +kernel) rfl rfl rfl (by decide +kernel)
set_option maxRecDepth 65536 in
theorem w_c2 : (Jvm.Cond.code ({ cls := "java/lang/Object", name := "<init>", desc := "()V" } : Jvm.MethodName) object_method_1_code (1 : Nat) (Option.none : Option Jvm.ClassFile.FieldType)).before args0 about1 = true := code_word (m := ⟨0, 0⟩) (meth := k0m0) (c := k0c0) (by decide +kernel) rfl rfl rfl (by decide +kernel)
set_option maxRecDepth 65536 in
theorem w_c3 : (Jvm.Cond.code ({ cls := "com/example/dalles/dalles/schema/Fill", name := "fromSequence", desc := "(Lcom/example/dalles/dalles/schema/Sequence;)Lcom/example/dalles/dalles/schema/Fill;" } : Jvm.MethodName) prog_24_method_2_code (1 : Nat) (Option.some (Jvm.ClassFile.FieldType.object "com/example/dalles/dalles/schema/Fill"))).before args0 about1 = true := code_word (m := ⟨9, 1⟩) (meth := k9m1) (c := k9c1) (by decide +kernel) rfl rfl rfl (by decide +kernel)
set_option maxRecDepth 65536 in
theorem w_c4 : (Jvm.Cond.code ({ cls := "java/util/Objects", name := "requireNonNull", desc := "(Ljava/lang/Object;)Ljava/lang/Object;" } : Jvm.MethodName) jdk_31_method_10_code (1 : Nat) (Option.some (Jvm.ClassFile.FieldType.object "java/lang/Object"))).before args0 about1 = true := code_word (m := ⟨10, 1⟩) (meth := k10m1) (c := k10c1) (by decide +kernel) rfl rfl rfl (by decide +kernel)
set_option maxRecDepth 65536 in
theorem w_c5 : (Jvm.Cond.code ({ cls := "com/example/dalles/dalles/schema/Fill", name := "<init>", desc := "(Lcom/example/dalles/dalles/schema/Sequence;Z)V" } : Jvm.MethodName) prog_24_method_1_code (3 : Nat) (Option.none : Option Jvm.ClassFile.FieldType)).before args0 about1 = true := code_word (m := ⟨9, 0⟩) (meth := k9m0) (c := k9c0) (by decide +kernel) rfl rfl rfl (by decide +kernel)
set_option maxRecDepth 65536 in
theorem w_c6 : (Jvm.Cond.code ({ cls := "com/example/dalles/dalles/schema/PostgreSqlColumn", name := "<init>", desc := "(Ljava/lang/String;Ljava/lang/String;I)V" } : Jvm.MethodName) prog_46_method_1_code (4 : Nat) (Option.none : Option Jvm.ClassFile.FieldType)).before args0 about1 = true := code_word (m := ⟨11, 0⟩) (meth := k11m0) (c := k11c0) (by decide +kernel) rfl rfl rfl (by decide +kernel)
set_option maxRecDepth 65536 in
theorem w_c7 : (Jvm.Cond.code ({ cls := "java/util/Optional", name := "empty", desc := "()Ljava/util/Optional;" } : Jvm.MethodName) jdk_32_method_1_code (1 : Nat) (Option.some (Jvm.ClassFile.FieldType.object "java/util/Optional"))).before args0 about1 = true := code_word (m := ⟨12, 0⟩) (meth := k12m0) (c := k12c0) (by decide +kernel) rfl rfl rfl (by decide +kernel)
set_option maxRecDepth 65536 in
theorem w_c8 : (Jvm.Cond.code ({ cls := "com/example/dalles/dalles/schema/PostgreSqlColumn", name := "inheritDefault", desc := "(Lcom/example/dalles/dalles/schema/PostgreSqlColumn;)V" } : Jvm.MethodName) prog_46_method_10_code (2 : Nat) (Option.none : Option Jvm.ClassFile.FieldType)).before args0 about1 = true := code_word (m := ⟨11, 4⟩) (meth := k11m4) (c := k11c4) (by decide +kernel) rfl rfl rfl (by decide +kernel)
set_option maxRecDepth 65536 in
theorem w_c9 : (Jvm.Cond.code ({ cls := "com/example/dalles/dalles/schema/PostgreSqlColumn", name := "fill", desc := "()Lcom/example/dalles/dalles/schema/Fill;" } : Jvm.MethodName) prog_46_method_8_code (1 : Nat) (Option.some (Jvm.ClassFile.FieldType.object "com/example/dalles/dalles/schema/Fill"))).before args0 about1 = true := code_word (m := ⟨11, 3⟩) (meth := k11m3) (c := k11c3) (by decide +kernel) rfl rfl rfl (by decide +kernel)
set_option maxRecDepth 65536 in
theorem w_c10 : (Jvm.Cond.code ({ cls := "com/example/dalles/dalles/schema/PostgreSqlColumnInheritDefaultPinLaw", name := "pick", desc := "(ILcom/example/dalles/dalles/schema/Fill;)Lcom/example/dalles/dalles/schema/Fill;" } : Jvm.MethodName) method_2_code (2 : Nat) (Option.some (Jvm.ClassFile.FieldType.object "com/example/dalles/dalles/schema/Fill"))).before args0 about1 = true := code_word (m := ⟨1, 1⟩) (meth := k1m1) (c := k1c1) (by decide +kernel) rfl rfl rfl (by decide +kernel)
set_option maxRecDepth 65536 in
theorem w_c11 : (Jvm.Cond.code ({ cls := "com/example/dalles/dalles/schema/PostgreSqlColumn", name := "setDefault", desc := "(Lcom/example/dalles/dalles/schema/Fill;)V" } : Jvm.MethodName) prog_46_method_4_code (2 : Nat) (Option.none : Option Jvm.ClassFile.FieldType)).before args0 about1 = true := code_word (m := ⟨11, 1⟩) (meth := k11m1) (c := k11c1) (by decide +kernel) rfl rfl rfl (by decide +kernel)
set_option maxRecDepth 65536 in
theorem w_c12 : (Jvm.Cond.code ({ cls := "com/example/dalles/dalles/schema/PostgreSqlColumn", name := "makeIdentity", desc := "(Lcom/example/dalles/dalles/schema/Sequence;)V" } : Jvm.MethodName) prog_46_method_5_code (2 : Nat) (Option.none : Option Jvm.ClassFile.FieldType)).before args0 about1 = true := code_word (m := ⟨11, 2⟩) (meth := k11m2) (c := k11c2) (by decide +kernel) rfl rfl rfl (by decide +kernel)
def codes1 : List Jvm.Cond := [Jvm.Cond.code x code maxLocals ret, Jvm.Cond.code ({ cls := "com/example/dalles/dalles/schema/Sequence", name := "<init>", desc := "(Ljava/lang/String;Ljava/lang/String;)V" } : Jvm.MethodName) prog_55_method_1_code (3 : Nat) (Option.none : Option Jvm.ClassFile.FieldType), Jvm.Cond.code ({ cls := "java/lang/Object", name := "<init>", desc := "()V" } : Jvm.MethodName) object_method_1_code (1 : Nat) (Option.none : Option Jvm.ClassFile.FieldType), Jvm.Cond.code ({ cls := "com/example/dalles/dalles/schema/Fill", name := "fromSequence", desc := "(Lcom/example/dalles/dalles/schema/Sequence;)Lcom/example/dalles/dalles/schema/Fill;" } : Jvm.MethodName) prog_24_method_2_code (1 : Nat) (Option.some (Jvm.ClassFile.FieldType.object "com/example/dalles/dalles/schema/Fill")), Jvm.Cond.code ({ cls := "java/util/Objects", name := "requireNonNull", desc := "(Ljava/lang/Object;)Ljava/lang/Object;" } : Jvm.MethodName) jdk_31_method_10_code (1 : Nat) (Option.some (Jvm.ClassFile.FieldType.object "java/lang/Object")), Jvm.Cond.code ({ cls := "com/example/dalles/dalles/schema/Fill", name := "<init>", desc := "(Lcom/example/dalles/dalles/schema/Sequence;Z)V" } : Jvm.MethodName) prog_24_method_1_code (3 : Nat) (Option.none : Option Jvm.ClassFile.FieldType), Jvm.Cond.code ({ cls := "com/example/dalles/dalles/schema/PostgreSqlColumn", name := "<init>", desc := "(Ljava/lang/String;Ljava/lang/String;I)V" } : Jvm.MethodName) prog_46_method_1_code (4 : Nat) (Option.none : Option Jvm.ClassFile.FieldType), Jvm.Cond.code ({ cls := "java/util/Optional", name := "empty", desc := "()Ljava/util/Optional;" } : Jvm.MethodName) jdk_32_method_1_code (1 : Nat) (Option.some (Jvm.ClassFile.FieldType.object "java/util/Optional")), Jvm.Cond.code ({ cls := "com/example/dalles/dalles/schema/PostgreSqlColumn", name := "inheritDefault", desc := "(Lcom/example/dalles/dalles/schema/PostgreSqlColumn;)V" } : Jvm.MethodName) prog_46_method_10_code (2 : Nat) (Option.none : Option Jvm.ClassFile.FieldType), Jvm.Cond.code ({ cls := "com/example/dalles/dalles/schema/PostgreSqlColumn", name := "fill", desc := "()Lcom/example/dalles/dalles/schema/Fill;" } : Jvm.MethodName) prog_46_method_8_code (1 : Nat) (Option.some (Jvm.ClassFile.FieldType.object "com/example/dalles/dalles/schema/Fill")), Jvm.Cond.code ({ cls := "com/example/dalles/dalles/schema/PostgreSqlColumnInheritDefaultPinLaw", name := "pick", desc := "(ILcom/example/dalles/dalles/schema/Fill;)Lcom/example/dalles/dalles/schema/Fill;" } : Jvm.MethodName) method_2_code (2 : Nat) (Option.some (Jvm.ClassFile.FieldType.object "com/example/dalles/dalles/schema/Fill")), Jvm.Cond.code ({ cls := "com/example/dalles/dalles/schema/PostgreSqlColumn", name := "setDefault", desc := "(Lcom/example/dalles/dalles/schema/Fill;)V" } : Jvm.MethodName) prog_46_method_4_code (2 : Nat) (Option.none : Option Jvm.ClassFile.FieldType), Jvm.Cond.code ({ cls := "com/example/dalles/dalles/schema/PostgreSqlColumn", name := "makeIdentity", desc := "(Lcom/example/dalles/dalles/schema/Sequence;)V" } : Jvm.MethodName) prog_46_method_5_code (2 : Nat) (Option.none : Option Jvm.ClassFile.FieldType)]
set_option maxRecDepth 65536 in
theorem codes_eq : words1.filter isCode = codes1 := rfl
theorem w_codes : ∀ c ∈ words1.filter isCode, c.before args0 about1 = true := by
  rw [codes_eq]
  intro c hc
  simp only [codes1, List.mem_cons, List.not_mem_nil, or_false] at hc
  rcases hc with rfl | rfl | rfl | rfl | rfl | rfl | rfl | rfl | rfl | rfl | rfl | rfl | rfl
  · exact w_c0
  · exact w_c1
  · exact w_c2
  · exact w_c3
  · exact w_c4
  · exact w_c5
  · exact w_c6
  · exact w_c7
  · exact w_c8
  · exact w_c9
  · exact w_c10
  · exact w_c11
  · exact w_c12
set_option maxRecDepth 65536 in
theorem w_t1 : (words1.take 24).all (fun c => isCode c || c.before args0 about1) = true := by decide +kernel
set_option maxRecDepth 65536 in
theorem w_t2 : ((words1.drop 24).take 24).all (fun c => isCode c || c.before args0 about1) = true := by decide +kernel
set_option maxRecDepth 65536 in
theorem w_t3 : (((words1.drop 24).drop 24).take 24).all (fun c => isCode c || c.before args0 about1) = true := by decide +kernel
set_option maxRecDepth 65536 in
theorem w_t4 : ((((words1.drop 24).drop 24).drop 24).take 24).all (fun c => isCode c || c.before args0 about1) = true := by decide +kernel
set_option maxRecDepth 65536 in
theorem w_t5 : ((((words1.drop 24).drop 24).drop 24).drop 24).all (fun c => isCode c || c.before args0 about1) = true := by decide +kernel
theorem w_tables : (allAtoms (Jvm.Cond.code x code maxLocals ret :: tables_1)).before args0 about1 = true := by
  rw [allAtoms_all]
  show words1.all (fun c => c.before args0 about1) = true
  refine all_split ?_ w_codes
  rw [← List.take_append_drop 24 words1, List.all_append, w_t1, ← List.take_append_drop 24 (words1.drop 24), List.all_append, w_t2, ← List.take_append_drop 24 ((words1.drop 24).drop 24), List.all_append, w_t3, ← List.take_append_drop 24 (((words1.drop 24).drop 24).drop 24), List.all_append, w_t4, w_t5]
  rfl
set_option maxRecDepth 65536 in
theorem w_rest : rest_1_c.before args0 about1 = true := by decide +kernel
set_option maxRecDepth 65536 in
theorem w_case : (Jvm.Cond.and given_1 narrow_1).before args0 about1 = true := by decide +kernel
theorem w_applies : (headSpec (Jvm.Cond.code x code maxLocals ret :: tables_1) room_1).applies x e0.platform about1 = true :=
  (Spec.applies_iff w_frames).mpr ⟨w_running, w_runnable, w_alone, w_named, w_hears, w_ripe, w_room, w_tables⟩
theorem atStart : AtStart classFile x code maxLocals ret World_1 tables_1 room_1 Calls_1 rest_1 Pre_1 launch0 p0 e0 about1 theMethod args0 below0 :=
  ⟨lists_1, trivial, launch0.admits_env _ _ _, launch0.least_env, fairChoices_fair.cas, fairChoices_fair.clock, w_frames, w_args, w_heap, w_applies, trivial, w_rest, w_case⟩
end start1
theorem witness_1 : WitnessClaimed_1 := ⟨start1.p0, start1.e0, start1.about1, start1.theMethod, start1.args0, start1.below0, start1.atStart⟩
end Jvm.Pilot.@@N@@
