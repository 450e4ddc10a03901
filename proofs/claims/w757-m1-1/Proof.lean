import JvmDerived
import JvmDerived.Pilot.@@N@@Statement
import JvmDerived.Pilot.@@N@@Code
set_option linter.unusedVariables false
set_option linter.unusedSimpArgs false
namespace Jvm.Pilot.@@N@@
open Jvm Jvm.ClassFile Sem Op Lib Jvm.Free Jvm.Stand Jvm.LawKit Jvm.RoadKit Bundle Jvm.Pilot.@@N@@.Jvm.D
/-! THE OWN LAYER (printed by own/gen_layer.py): Wp: from this pc, with these locals, this operand stack and these new objects, the body comes to its return and Q holds of what it returns and of the new objects then -/
abbrev OSig := List (String × String × String)
abbrev ObjB := (String × OSig × List Value) ⊕ ((FieldType × List Int32) ⊕ (List Int64 ⊕ (String × FieldType × List Value)))
/-- an object of the walk: true: made by it (it may be written); false: only read -/
abbrev Obj := Bool × ObjB
abbrev oI (C : String) (sg : OSig) (vs : List Value) : Obj := (true, .inl (C, sg, vs))
abbrev oA (ty : FieldType) (xs : List Int32) : Obj := (true, .inr (.inl (ty, xs)))
abbrev oJ (xs : List Int64) : Obj := (true, .inr (.inr (.inl xs)))
abbrev oR (C : String) (ty : FieldType) (vs : List Value) : Obj := (true, .inr (.inr (.inr (C, ty, vs))))
abbrev fI (C : String) (sg : OSig) (vs : List Value) : Obj := (false, .inl (C, sg, vs))
abbrev fA (ty : FieldType) (xs : List Int32) : Obj := (false, .inr (.inl (ty, xs)))
abbrev OH := List (Addr × Obj)
def Slo (Z : State) (sg : OSig) : Prop := sg.Pairwise fun f g => Jvm.RoadKit.slotOf Z f.1 f.2.1 f.2.2 ≠ Jvm.RoadKit.slotOf Z g.1 g.2.1 g.2.2
def OvrT (Z : State) (cA : ClassId) (C : String) (ty : FieldType) : Prop := ∃ (k : Class) (comp : ClassId), Z.vm.classes[cA]? = some k ∧ k.kind = .array comp ty ∧ Z.vm.findClass C = some comp
def Sat (Z : State) (h : Heap) (a : Addr) : ObjB → Prop
  | .inl (C, sg, vs) => Exa Z h a C ∧ Slo Z sg ∧ ∀ (i : Nat) (f : String × String × String) (v : Value), sg[i]? = some f → vs[i]? = some v → Fld Z h a f.1 f.2.1 f.2.2 v
  | .inr (.inl (ty, xs)) => (ty = .byte ∨ Exa Z h a ("[" ++ ty.toString)) ∧ ∃ c : Cell, Arr Z h a c ty ∧ c.slots = (xs.map Value.int).toArray ∧ ∀ x ∈ xs, fits ty (.int x) = true
  | .inr (.inr (.inl xs)) => Exa Z h a "[J" ∧ ∃ c : Cell, Arr Z h a c .long ∧ c.slots = (xs.map Value.long).toArray
  | .inr (.inr (.inr (C, ty, vs))) => Exa Z h a ("[" ++ ty.toString) ∧ ∃ c : Cell, Arr Z h a c ty ∧ OvrT Z c.cls C ty ∧ c.slots = vs.toArray ∧ ∀ v ∈ vs, v.isRef = true
def Hp (Z : State) (h : Heap) (H : OH) : Prop := Ext Z.heap h ∧ (∀ x ∈ H, (x.2.1 = true → Z.heap.size ≤ x.1) ∧ Sat Z h x.1 x.2.2) ∧ H.Pairwise fun x y => (x.2.1 = true ∨ y.2.1 = true) → x.1 ≠ y.1
theorem Sat.ext {Z : State} {h h' : Heap} {a : Addr} (E : Ext h h') : ∀ {o : ObjB}, Sat Z h a o → Sat Z h' a o
  | .inl (C, sg, vs), ⟨h1, h2, h3⟩ => ⟨h1.ext E, h2, fun i f v q r => (h3 i f v q r).ext E⟩
  | .inr (.inl (ty, xs)), ⟨q, c, h1, h2⟩ => ⟨q.imp id (·.ext E), c, h1.ext E, h2⟩
  | .inr (.inr (.inl xs)), ⟨q, c, h1, h2⟩ => ⟨q.ext E, c, h1.ext E, h2⟩
  | .inr (.inr (.inr (C, ty, vs))), ⟨q, c, h1, h2⟩ => ⟨q.ext E, c, h1.ext E, h2⟩
theorem Sat.other {Z : State} {h h' : Heap} {a b : Addr} {sl : Nat} {v : Value} (W : Wr h h' a sl v) (ne : b ≠ a) : ∀ {o : ObjB}, Sat Z h b o → Sat Z h' b o
  | .inl (C, sg, vs), ⟨h1, h2, h3⟩ => ⟨h1.wr W, h2, fun i f v q r => (h3 i f v q r).other W (Or.inl ne)⟩
  | .inr (.inl (ty, xs)), ⟨q, c, h1, h2⟩ => ⟨q.imp id (·.wr W), c, h1.other W ne, h2⟩
  | .inr (.inr (.inl xs)), ⟨q, c, h1, h2⟩ => ⟨q.wr W, c, h1.other W ne, h2⟩
  | .inr (.inr (.inr (C, ty, vs))), ⟨q, c, h1, h2⟩ => ⟨q.wr W, c, h1.other W ne, h2⟩
theorem Sat.lt {Z : State} {h : Heap} {a : Addr} : ∀ {o : ObjB}, Sat Z h a o → a < h.size
  | .inl (C, sg, vs), ⟨h1, h2, h3⟩ => h1.lt
  | .inr (.inl (ty, xs)), ⟨_, c, h1, _⟩ => h1.lt
  | .inr (.inr (.inl xs)), ⟨q, _⟩ => q.lt
  | .inr (.inr (.inr (C, ty, vs))), ⟨q, _⟩ => q.lt
theorem Hp.nil (Z : State) : Hp Z Z.heap [] := ⟨⟨Nat.le_refl _, fun _ _ q => q⟩, (fun _ q => nomatch q), List.Pairwise.nil⟩
theorem ext_trans {h h1 h2 : Heap} (E : Ext h h1) (E' : Ext h1 h2) : Ext h h2 := ⟨Nat.le_trans E.1 E'.1, fun a c q => E'.2 a c (E.2 a c q)⟩
theorem Hp.ext {Z : State} {h h' : Heap} {H : OH} (P : Hp Z h H) (E : Ext h h') : Hp Z h' H := ⟨ext_trans P.1 E, fun x q => ⟨(P.2.1 x q).1, (P.2.1 x q).2.ext E⟩, P.2.2⟩
theorem Hp.cons {Z : State} {h h' : Heap} {H : OH} (P : Hp Z h H) (E : Ext h h') {fl : Bool} {o : ObjB} (S : Sat Z h' h.size o) : Hp Z h' ((h.size, (fl, o)) :: H) :=
  ⟨ext_trans P.1 E, fun x q => (List.mem_cons.mp q).elim (fun e => by subst e; exact ⟨fun _ => P.1.1, S⟩) fun q => ⟨(P.2.1 x q).1, (P.2.1 x q).2.ext E⟩,
    List.Pairwise.cons (fun y q _ e => absurd ((P.2.1 y q).2.lt) (by rw [← e]; exact Nat.lt_irrefl _)) P.2.2⟩
theorem Hp.at {Z : State} {h : Heap} {H : OH} (P : Hp Z h H) {i : Nat} {x : Addr × Obj} (q : H[i]? = some x) : (x.2.1 = true → Z.heap.size ≤ x.1) ∧ Sat Z h x.1 x.2.2 := P.2.1 x (List.mem_of_getElem? q)
theorem Hp.ne {Z : State} {h : Heap} {H : OH} (P : Hp Z h H) {i j : Nat} {x y : Addr × Obj} (q : H[i]? = some x) (r : H[j]? = some y) (ht : x.2.1 = true ∨ y.2.1 = true) (ij : i ≠ j) : x.1 ≠ y.1 := by
  have hP := List.pairwise_iff_getElem.mp P.2.2
  obtain ⟨hi, rfl⟩ := List.getElem?_eq_some_iff.mp q
  obtain ⟨hj, rfl⟩ := List.getElem?_eq_some_iff.mp r
  rcases Nat.lt_or_gt_of_ne ij with u | u
  · exact hP i j hi hj u ht
  · exact fun e => hP j i hj hi u ht.symm e.symm
theorem Hp.set {Z : State} {h h' : Heap} {H : OH} (P : Hp Z h H) {i : Nat} {a : Addr} {o o' : ObjB} (q : H[i]? = some (a, (true, o))) {sl : Nat} {v : Value} (W : Wr h h' a sl v) (S : Sat Z h' a o') : Hp Z h' (H.set i (a, (true, o'))) := by
  have g : Z.heap.size ≤ a := (P.at q).1 rfl
  obtain ⟨hi, hq⟩ := List.getElem?_eq_some_iff.mp q
  refine ⟨⟨by rw [W.size]; exact P.1.1, fun b c r => ?_⟩, fun x hx => ?_, ?_⟩
  · obtain ⟨c', e1, -, -, -, e5, -⟩ := wr_at W (P.1.2 b c r)
    have : b < Z.heap.size := (Array.getElem?_eq_some_iff.mp r).1
    rw [← e5 (by rintro rfl; exact absurd this (Nat.not_lt.mpr g))]; exact e1
  · obtain ⟨n, hn⟩ := List.getElem?_of_mem hx
    rw [List.getElem?_set] at hn
    split at hn
    · have e0 : (a, (true, o')) = x := by simpa [hi] using hn
      subst e0; exact ⟨fun _ => g, S⟩
    · rename_i ne
      exact ⟨(P.at hn).1, (P.at hn).2.other W (P.ne hn q (Or.inr rfl) (Ne.symm ne))⟩
  · have e : (H.set i (a, (true, o'))).map (fun x => (x.1, x.2.1)) = H.map (fun x => (x.1, x.2.1)) := by
      rw [List.map_set]
      refine List.ext_getElem? fun n => ?_
      rw [List.getElem?_set]
      split
      · rename_i e; subst e
        simp [hi, hq]
      · rfl
    have h1 : (H.map (fun x => (x.1, x.2.1))).Pairwise (fun u v => (u.2 = true ∨ v.2 = true) → u.1 ≠ v.1) := List.pairwise_map.mpr P.2.2
    rw [← e] at h1
    exact List.pairwise_map.mp h1
theorem Hp.pick {Z : State} {h : Heap} {H : OH} (P : Hp Z h H) (is : List Nat) (hn : is.Nodup) : Hp Z h (is.filterMap fun i => H[i]?) := by
  refine ⟨P.1, fun x hx => ?_, ?_⟩
  · obtain ⟨i, -, q⟩ := List.mem_filterMap.mp hx
    exact P.at q
  · refine List.pairwise_filterMap.mpr (hn.imp fun {i j} ne x hx y hy ht => P.ne hx hy ht ne)
/-- what an instruction says: its constructor, its length, the next pc -/
def Dc (bytes : ByteArray) (pc : Nat) (i : Instr) (n pc' : Nat) : Prop := decode bytes pc = .ok (i, n) ∧ pc + n = pc'
def Tg (pc : Nat) (o : Int) (pc' : Nat) : Prop := 0 ≤ (pc : Int) + o ∧ ((pc : Int) + o).toNat = pc'
/-- the walk's mode: none: it loads no String constant; some none: it may; some (some Ts): it has loaded these texts and no others -/
abbrev Md := Option (Option (List String))
def MdOk (b : Md) (Z s : State) (vm0 : Vm) : Prop := ∀ Ts, b = some (some Ts) → s.heap = Z.heap ∧ Jvm.RoadKit.IB Z vm0 Ts
def Wp (b : Md) (l : Launch) (Z : State) (own nm : String) (bytes : ByteArray) (maxL : Nat) (ret : Option FieldType) (R : Room) (H : OH) (k j : Nat) (pc : Nat) (Ls : Array Slot) (st : List Value) (Q : Option Value → OH → Prop) : Prop :=
  ∀ (p : Program) (e : Env) (s : State) (vm0 : Vm) (k0 : Nat) (m : MethodId) (args : Array Value) (below : List Frame) (meth : Method) (c : Code) (T : State) (L : List Loc),
    p.tables.exec = Jvm.exec → Z.Warmed39 vm0 → s.Since vm0 k0 → k0 ≤ T.heap.size → c.code = bytes → c.maxLocals = maxL → vm0.findClass own = some m.cls → meth.name = nm → meth.sig.returnType = ret →
    Stand p l e R (s.setVm vm0) m args below meth c T L k j → Fr Z.heap.size L → Hp Z T.heap H → MdOk b Z s vm0 →
    ∃ (T' : State) (v : Option Value) (L' : List Loc) (k' j' : Nat) (vm1 : Vm) (k1 : Nat) (H' : OH),
      (s.Since vm1 k1 ∧ k1 ≤ T'.heap.size ∧ (b = none → vm1 = vm0)) ∧ Stand p l e R (s.setVm vm1) m args below meth c T' L' k' j' ∧ (k' ≤ R.cells ∧ j' ≤ R.slots ∧ T.heap.size ≤ T'.heap.size) ∧ Fr Z.heap.size L' ∧ Hp Z T'.heap H' ∧ (ret = none → v = none) ∧ Q v H' ∧
      ∀ fs, (∀ (f : JFrame) (acts : List Action), f.method = m → f.locked = none → f.entered = [] → (doReturn e (T'.setTop f) acts v).1 = T'.setFrames fs) → Steps p.tables e below (T.setTop (mkF m pc Ls st)) (T'.setFrames fs)
section Own
variable {b : Md} {l : Launch} {Z : State} {a0 : Array Value} {own nm : String} {bytes : ByteArray} {maxL : Nat} {ret : Option FieldType} {R : Room} {H : OH} {k j pc pc' : Nat} {Ls : Array Slot} {st : List Value} {Q : Option Value → OH → Prop}
theorem Wp.stepH
    (hs : ∀ (p : Program) (e : Env) (s : State) (m : MethodId) (args : Array Value) (below : List Frame) (meth : Method) (c : Code) (T : State) (L : List Loc),
      p.tables.exec = Jvm.exec → Z.Warmed39 s.vm → c.code = bytes → c.maxLocals = maxL → s.vm.findClass own = some m.cls → meth.name = nm → meth.sig.returnType = ret →
      Stand p l e R s m args below meth c T L k j → Fr Z.heap.size L → Hp Z T.heap H →
      ∃ (T' : State) (L' : List Loc) (k' j' : Nat) (H' : OH) (pc' : Nat) (Ls' : Array Slot) (st' : List Value), Stand p l e R s m args below meth c T' L' k' j' ∧ T.heap.size ≤ T'.heap.size ∧ Fr Z.heap.size L' ∧ Hp Z T'.heap H' ∧ Wp b l Z own nm bytes maxL ret R H' k' j' pc' Ls' st' Q ∧
        ∀ target, Steps p.tables e below (T'.setTop (mkF m pc' Ls' st')) target → Steps p.tables e below (T.setTop (mkF m pc Ls st)) target) :
    Wp b l Z own nm bytes maxL ret R H k j pc Ls st Q := by
  intro p e s vm0 k0 m args below meth c T L hx hZ hS hk hby hml hown hnm hret X N hH hB
  obtain ⟨T', L', k', j', H', pc', Ls', st', X', hsz, N', hH', hr, stp⟩ := hs p e (s.setVm vm0) m args below meth c T L hx hZ hby hml hown hnm hret X N hH
  obtain ⟨T2, v, L2, k2, j2, vm1, k1, H2, r1, r2, ⟨r3, r4, r5⟩, r6, r7, r8, r9, r10⟩ := hr p e s vm0 k0 m args below meth c T' L' hx hZ hS (Nat.le_trans hk hsz) hby hml hown hnm hret X' N' hH' hB
  exact ⟨T2, v, L2, k2, j2, vm1, k1, H2, r1, r2, ⟨r3, r4, Nat.le_trans hsz r5⟩, r6, r7, r8, r9, fun fs hl => stp _ (r10 fs hl)⟩
theorem Wp.step {Ls' : Array Slot} {st' : List Value}
    (hs : ∀ (p : Program) (e : Env) (s : State) (m : MethodId) (args : Array Value) (below : List Frame) (meth : Method) (c : Code) (T : State) (L : List Loc),
      p.tables.exec = Jvm.exec → Z.Warmed39 s.vm → c.code = bytes → s.vm.findClass own = some m.cls → Stand p l e R s m args below meth c T L k j → Hp Z T.heap H →
        ∀ target, Steps p.tables e below (T.setTop (mkF m pc' Ls' st')) target → Steps p.tables e below (T.setTop (mkF m pc Ls st)) target)
    (hr : Wp b l Z own nm bytes maxL ret R H k j pc' Ls' st' Q) : Wp b l Z own nm bytes maxL ret R H k j pc Ls st Q :=
  Wp.stepH fun p e s m args below meth c T L hx hZ hby hml hown hnm hret X N hH => ⟨T, L, k, j, H, pc', Ls', st', X, Nat.le_refl _, N, hH, hr, hs p e s m args below meth c T L hx hZ hby hown X hH⟩
theorem Wp.know {P : Prop} (hp : ∀ h, Hp Z h H → P) (hr : P → Wp b l Z own nm bytes maxL ret R H k j pc Ls st Q) : Wp b l Z own nm bytes maxL ret R H k j pc Ls st Q :=
  fun p e s vm0 k0 m args below meth c T L hx hZ hS hk hby hml hown hnm hret X N hH hB => hr (hp _ hH) p e s vm0 k0 m args below meth c T L hx hZ hS hk hby hml hown hnm hret X N hH hB
theorem Wp.pick (is : List Nat) (hn : is.Nodup) (hr : Wp b l Z own nm bytes maxL ret R (is.filterMap fun i => H[i]?) k j pc Ls st Q) : Wp b l Z own nm bytes maxL ret R H k j pc Ls st Q :=
  Wp.stepH fun p e s m args below meth c T L hx hZ hby hml hown hnm hret X N hH => ⟨T, L, k, j, _, pc, Ls, st, X, Nat.le_refl _, N, hH.pick is hn, hr, fun _ q => q⟩
theorem Wp.more {k' j' : Nat} (hk : k ≤ k') (hj : j ≤ j') (hr : Wp b l Z own nm bytes maxL ret R H k' j' pc Ls st Q) : Wp b l Z own nm bytes maxL ret R H k j pc Ls st Q :=
  Wp.stepH fun p e s m args below meth c T L hx hZ hby hml hown hnm hret X N hH => ⟨T, L, k', j', H, pc, Ls, st, X.more hk hj, Nat.le_refl _, N, hH, hr, fun _ q => q⟩
theorem Wp.mono {Q' : Option Value → OH → Prop} (hr : Wp b l Z own nm bytes maxL ret R H k j pc Ls st Q') (hq : ∀ v H', Q' v H' → Q v H') : Wp b l Z own nm bytes maxL ret R H k j pc Ls st Q :=
  fun p e s vm0 k0 m args below meth c T L hx hZ hS hk hby hml hown hnm hret X N hH hB => by
    obtain ⟨T2, v, L2, k2, j2, vm1, k1, H2, r1, r2, r3, r6, r7, r8, r9, r10⟩ := hr p e s vm0 k0 m args below meth c T L hx hZ hS hk hby hml hown hnm hret X N hH hB
    exact ⟨T2, v, L2, k2, j2, vm1, k1, H2, r1, r2, r3, r6, r7, r8, hq _ _ r9, r10⟩
theorem wp_iadd {x y : Int32} (hd : Dc bytes pc (.iadd) 1 pc')  (hr : Wp b l Z own nm bytes maxL ret R H k j pc' Ls (.int (x + y) :: st) Q) : Wp b l Z own nm bytes maxL ret R H k j pc Ls (.int y :: .int x :: st) Q := by
  obtain ⟨hd, rfl⟩ := hd
  exact Wp.step (fun p e s m args below meth c T L hx hZ hby hown X hH target ht => XS.iadd X.here hx rfl (hb hby hd) rfl ht) hr
theorem wp_isub {x y : Int32} (hd : Dc bytes pc (.isub) 1 pc')  (hr : Wp b l Z own nm bytes maxL ret R H k j pc' Ls (.int (x - y) :: st) Q) : Wp b l Z own nm bytes maxL ret R H k j pc Ls (.int y :: .int x :: st) Q := by
  obtain ⟨hd, rfl⟩ := hd
  exact Wp.step (fun p e s m args below meth c T L hx hZ hby hown X hH target ht => XS.isub X.here hx rfl (hb hby hd) rfl ht) hr
theorem wp_iand {x y : Int32} (hd : Dc bytes pc (.iand) 1 pc')  (hr : Wp b l Z own nm bytes maxL ret R H k j pc' Ls (.int (x &&& y) :: st) Q) : Wp b l Z own nm bytes maxL ret R H k j pc Ls (.int y :: .int x :: st) Q := by
  obtain ⟨hd, rfl⟩ := hd
  exact Wp.step (fun p e s m args below meth c T L hx hZ hby hown X hH target ht => XS.iand X.here hx rfl (hb hby hd) rfl ht) hr
theorem wp_imul {x y : Int32} (hd : Dc bytes pc (.imul) 1 pc')  (hr : Wp b l Z own nm bytes maxL ret R H k j pc' Ls (.int (x * y) :: st) Q) : Wp b l Z own nm bytes maxL ret R H k j pc Ls (.int y :: .int x :: st) Q := by
  obtain ⟨hd, rfl⟩ := hd
  exact Wp.step (fun p e s m args below meth c T L hx hZ hby hown X hH target ht => XS.imul X.here hx rfl (hb hby hd) rfl ht) hr
theorem wp_ixor {x y : Int32} (hd : Dc bytes pc (.ixor) 1 pc')  (hr : Wp b l Z own nm bytes maxL ret R H k j pc' Ls (.int (x ^^^ y) :: st) Q) : Wp b l Z own nm bytes maxL ret R H k j pc Ls (.int y :: .int x :: st) Q := by
  obtain ⟨hd, rfl⟩ := hd
  exact Wp.step (fun p e s m args below meth c T L hx hZ hby hown X hH target ht => XT.ixor X.here hx rfl (hb hby hd) rfl ht) hr
theorem wp_ior {x y : Int32} (hd : Dc bytes pc (.ior) 1 pc')  (hr : Wp b l Z own nm bytes maxL ret R H k j pc' Ls (.int (x ||| y) :: st) Q) : Wp b l Z own nm bytes maxL ret R H k j pc Ls (.int y :: .int x :: st) Q := by
  obtain ⟨hd, rfl⟩ := hd
  exact Wp.step (fun p e s m args below meth c T L hx hZ hby hown X hH target ht => XT.ior X.here hx rfl (hb hby hd) rfl ht) hr
theorem wp_ishl {x y : Int32} (hd : Dc bytes pc (.ishl) 1 pc')  (hr : Wp b l Z own nm bytes maxL ret R H k j pc' Ls (.int (x <<< (y &&& 31)) :: st) Q) : Wp b l Z own nm bytes maxL ret R H k j pc Ls (.int y :: .int x :: st) Q := by
  obtain ⟨hd, rfl⟩ := hd
  exact Wp.step (fun p e s m args below meth c T L hx hZ hby hown X hH target ht => XT.ishl X.here hx rfl (hb hby hd) rfl ht) hr
theorem wp_ishr {x y : Int32} (hd : Dc bytes pc (.ishr) 1 pc')  (hr : Wp b l Z own nm bytes maxL ret R H k j pc' Ls (.int (x >>> (y &&& 31)) :: st) Q) : Wp b l Z own nm bytes maxL ret R H k j pc Ls (.int y :: .int x :: st) Q := by
  obtain ⟨hd, rfl⟩ := hd
  exact Wp.step (fun p e s m args below meth c T L hx hZ hby hown X hH target ht => XT.ishr X.here hx rfl (hb hby hd) rfl ht) hr
theorem wp_iushr {x y : Int32} (hd : Dc bytes pc (.iushr) 1 pc')  (hr : Wp b l Z own nm bytes maxL ret R H k j pc' Ls (.int (XT.ushr x y) :: st) Q) : Wp b l Z own nm bytes maxL ret R H k j pc Ls (.int y :: .int x :: st) Q := by
  obtain ⟨hd, rfl⟩ := hd
  exact Wp.step (fun p e s m args below meth c T L hx hZ hby hown X hH target ht => XT.iushr X.here hx rfl (hb hby hd) rfl ht) hr
theorem wp_idiv {x y : Int32} (hd : Dc bytes pc (.idiv) 1 pc') (hy : y ≠ 0) (hr : Wp b l Z own nm bytes maxL ret R H k j pc' Ls (.int (x / y) :: st) Q) : Wp b l Z own nm bytes maxL ret R H k j pc Ls (.int y :: .int x :: st) Q := by
  obtain ⟨hd, rfl⟩ := hd
  exact Wp.step (fun p e s m args below meth c T L hx hZ hby hown X hH target ht => XS.idiv X.here hx rfl (hb hby hd) rfl hy ht) hr
theorem wp_irem {x y : Int32} (hd : Dc bytes pc (.irem) 1 pc') (hy : y ≠ 0) (hr : Wp b l Z own nm bytes maxL ret R H k j pc' Ls (.int (x % y) :: st) Q) : Wp b l Z own nm bytes maxL ret R H k j pc Ls (.int y :: .int x :: st) Q := by
  obtain ⟨hd, rfl⟩ := hd
  exact Wp.step (fun p e s m args below meth c T L hx hZ hby hown X hH target ht => iremM X hx rfl (hb hby hd) rfl hy ht) hr
theorem wp_ineg {x : Int32} (hd : Dc bytes pc (.ineg) 1 pc')  (hr : Wp b l Z own nm bytes maxL ret R H k j pc' Ls (.int (-x) :: st) Q) : Wp b l Z own nm bytes maxL ret R H k j pc Ls (.int x :: st) Q := by
  obtain ⟨hd, rfl⟩ := hd
  exact Wp.step (fun p e s m args below meth c T L hx hZ hby hown X hH target ht => XS.ineg X.here hx rfl (hb hby hd) rfl ht) hr
theorem wp_ladd {x y : Int64} (hd : Dc bytes pc (.ladd) 1 pc')  (hr : Wp b l Z own nm bytes maxL ret R H k j pc' Ls (.long (x + y) :: st) Q) : Wp b l Z own nm bytes maxL ret R H k j pc Ls (.long y :: .long x :: st) Q := by
  obtain ⟨hd, rfl⟩ := hd
  exact Wp.step (fun p e s m args below meth c T L hx hZ hby hown X hH target ht => XT.ladd X.here hx rfl (hb hby hd) rfl ht) hr
theorem wp_lsub {x y : Int64} (hd : Dc bytes pc (.lsub) 1 pc')  (hr : Wp b l Z own nm bytes maxL ret R H k j pc' Ls (.long (x - y) :: st) Q) : Wp b l Z own nm bytes maxL ret R H k j pc Ls (.long y :: .long x :: st) Q := by
  obtain ⟨hd, rfl⟩ := hd
  exact Wp.step (fun p e s m args below meth c T L hx hZ hby hown X hH target ht => XT.lsub X.here hx rfl (hb hby hd) rfl ht) hr
theorem wp_lmul {x y : Int64} (hd : Dc bytes pc (.lmul) 1 pc')  (hr : Wp b l Z own nm bytes maxL ret R H k j pc' Ls (.long (x * y) :: st) Q) : Wp b l Z own nm bytes maxL ret R H k j pc Ls (.long y :: .long x :: st) Q := by
  obtain ⟨hd, rfl⟩ := hd
  exact Wp.step (fun p e s m args below meth c T L hx hZ hby hown X hH target ht => XT.lmul X.here hx rfl (hb hby hd) rfl ht) hr
theorem wp_land {x y : Int64} (hd : Dc bytes pc (.land) 1 pc')  (hr : Wp b l Z own nm bytes maxL ret R H k j pc' Ls (.long (x &&& y) :: st) Q) : Wp b l Z own nm bytes maxL ret R H k j pc Ls (.long y :: .long x :: st) Q := by
  obtain ⟨hd, rfl⟩ := hd
  exact Wp.step (fun p e s m args below meth c T L hx hZ hby hown X hH target ht => XT.land X.here hx rfl (hb hby hd) rfl ht) hr
theorem wp_lor {x y : Int64} (hd : Dc bytes pc (.lor) 1 pc')  (hr : Wp b l Z own nm bytes maxL ret R H k j pc' Ls (.long (x ||| y) :: st) Q) : Wp b l Z own nm bytes maxL ret R H k j pc Ls (.long y :: .long x :: st) Q := by
  obtain ⟨hd, rfl⟩ := hd
  exact Wp.step (fun p e s m args below meth c T L hx hZ hby hown X hH target ht => XT.lor X.here hx rfl (hb hby hd) rfl ht) hr
theorem wp_lxor {x y : Int64} (hd : Dc bytes pc (.lxor) 1 pc')  (hr : Wp b l Z own nm bytes maxL ret R H k j pc' Ls (.long (x ^^^ y) :: st) Q) : Wp b l Z own nm bytes maxL ret R H k j pc Ls (.long y :: .long x :: st) Q := by
  obtain ⟨hd, rfl⟩ := hd
  exact Wp.step (fun p e s m args below meth c T L hx hZ hby hown X hH target ht => XT.lxor X.here hx rfl (hb hby hd) rfl ht) hr
theorem wp_lshl {x : Int64} {y : Int32} (hd : Dc bytes pc (.lshl) 1 pc')  (hr : Wp b l Z own nm bytes maxL ret R H k j pc' Ls (.long (x <<< (y.toInt64 &&& 63)) :: st) Q) : Wp b l Z own nm bytes maxL ret R H k j pc Ls (.int y :: .long x :: st) Q := by
  obtain ⟨hd, rfl⟩ := hd
  exact Wp.step (fun p e s m args below meth c T L hx hZ hby hown X hH target ht => XT.lshl X.here hx rfl (hb hby hd) rfl ht) hr
theorem wp_lshr {x : Int64} {y : Int32} (hd : Dc bytes pc (.lshr) 1 pc')  (hr : Wp b l Z own nm bytes maxL ret R H k j pc' Ls (.long (x >>> (y.toInt64 &&& 63)) :: st) Q) : Wp b l Z own nm bytes maxL ret R H k j pc Ls (.int y :: .long x :: st) Q := by
  obtain ⟨hd, rfl⟩ := hd
  exact Wp.step (fun p e s m args below meth c T L hx hZ hby hown X hH target ht => XT.lshr X.here hx rfl (hb hby hd) rfl ht) hr
theorem wp_lushr {x : Int64} {y : Int32} (hd : Dc bytes pc (.lushr) 1 pc')  (hr : Wp b l Z own nm bytes maxL ret R H k j pc' Ls (.long (XT.ushrL x y) :: st) Q) : Wp b l Z own nm bytes maxL ret R H k j pc Ls (.int y :: .long x :: st) Q := by
  obtain ⟨hd, rfl⟩ := hd
  exact Wp.step (fun p e s m args below meth c T L hx hZ hby hown X hH target ht => XT.lushr X.here hx rfl (hb hby hd) rfl ht) hr
theorem wp_ldiv {x y : Int64} (hd : Dc bytes pc (.ldiv) 1 pc') (hy : y ≠ 0) (hr : Wp b l Z own nm bytes maxL ret R H k j pc' Ls (.long (x / y) :: st) Q) : Wp b l Z own nm bytes maxL ret R H k j pc Ls (.long y :: .long x :: st) Q := by
  obtain ⟨hd, rfl⟩ := hd
  exact Wp.step (fun p e s m args below meth c T L hx hZ hby hown X hH target ht => XT.ldiv X.here hx rfl (hb hby hd) rfl hy ht) hr
theorem wp_lrem {x y : Int64} (hd : Dc bytes pc (.lrem) 1 pc') (hy : y ≠ 0) (hr : Wp b l Z own nm bytes maxL ret R H k j pc' Ls (.long (x - (x / y) * y) :: st) Q) : Wp b l Z own nm bytes maxL ret R H k j pc Ls (.long y :: .long x :: st) Q := by
  obtain ⟨hd, rfl⟩ := hd
  exact Wp.step (fun p e s m args below meth c T L hx hZ hby hown X hH target ht => XT.lrem X.here hx rfl (hb hby hd) rfl hy ht) hr
theorem wp_lneg {x : Int64} (hd : Dc bytes pc (.lneg) 1 pc')  (hr : Wp b l Z own nm bytes maxL ret R H k j pc' Ls (.long (-x) :: st) Q) : Wp b l Z own nm bytes maxL ret R H k j pc Ls (.long x :: st) Q := by
  obtain ⟨hd, rfl⟩ := hd
  exact Wp.step (fun p e s m args below meth c T L hx hZ hby hown X hH target ht => XT.lneg X.here hx rfl (hb hby hd) rfl ht) hr
theorem wp_i2l {x : Int32} (hd : Dc bytes pc (.i2l) 1 pc')  (hr : Wp b l Z own nm bytes maxL ret R H k j pc' Ls (.long x.toInt64 :: st) Q) : Wp b l Z own nm bytes maxL ret R H k j pc Ls (.int x :: st) Q := by
  obtain ⟨hd, rfl⟩ := hd
  exact Wp.step (fun p e s m args below meth c T L hx hZ hby hown X hH target ht => XT.i2l X.here hx rfl (hb hby hd) rfl ht) hr
theorem wp_l2i {x : Int64} (hd : Dc bytes pc (.l2i) 1 pc')  (hr : Wp b l Z own nm bytes maxL ret R H k j pc' Ls (.int x.toInt32 :: st) Q) : Wp b l Z own nm bytes maxL ret R H k j pc Ls (.long x :: st) Q := by
  obtain ⟨hd, rfl⟩ := hd
  exact Wp.step (fun p e s m args below meth c T L hx hZ hby hown X hH target ht => XT.l2i X.here hx rfl (hb hby hd) rfl ht) hr
theorem wp_i2b {x : Int32} (hd : Dc bytes pc (.i2b) 1 pc')  (hr : Wp b l Z own nm bytes maxL ret R H k j pc' Ls (.int x.toInt8.toInt32 :: st) Q) : Wp b l Z own nm bytes maxL ret R H k j pc Ls (.int x :: st) Q := by
  obtain ⟨hd, rfl⟩ := hd
  exact Wp.step (fun p e s m args below meth c T L hx hZ hby hown X hH target ht => XT.i2b X.here hx rfl (hb hby hd) rfl ht) hr
theorem wp_i2c {x : Int32} (hd : Dc bytes pc (.i2c) 1 pc')  (hr : Wp b l Z own nm bytes maxL ret R H k j pc' Ls (.int x.toUInt32.toUInt16.toUInt32.toInt32 :: st) Q) : Wp b l Z own nm bytes maxL ret R H k j pc Ls (.int x :: st) Q := by
  obtain ⟨hd, rfl⟩ := hd
  exact Wp.step (fun p e s m args below meth c T L hx hZ hby hown X hH target ht => XT.i2c X.here hx rfl (hb hby hd) rfl ht) hr
theorem wp_i2s {x : Int32} (hd : Dc bytes pc (.i2s) 1 pc')  (hr : Wp b l Z own nm bytes maxL ret R H k j pc' Ls (.int x.toInt16.toInt32 :: st) Q) : Wp b l Z own nm bytes maxL ret R H k j pc Ls (.int x :: st) Q := by
  obtain ⟨hd, rfl⟩ := hd
  exact Wp.step (fun p e s m args below meth c T L hx hZ hby hown X hH target ht => XT.i2s X.here hx rfl (hb hby hd) rfl ht) hr
theorem wp_lcmp {x y : Int64} (hd : Dc bytes pc (.lcmp) 1 pc')  (hr : Wp b l Z own nm bytes maxL ret R H k j pc' Ls (.int (XT.cmpL x y) :: st) Q) : Wp b l Z own nm bytes maxL ret R H k j pc Ls (.long y :: .long x :: st) Q := by
  obtain ⟨hd, rfl⟩ := hd
  exact Wp.step (fun p e s m args below meth c T L hx hZ hby hown X hH target ht => XT.lcmp X.here hx rfl (hb hby hd) rfl ht) hr
theorem wp_iload_n {n : Fin 4} {v : Int32} (hd : Dc bytes pc (.iload_n n) 1 pc') (hl : Ls[n.val]? = some (.val (.int v))) (hr : Wp b l Z own nm bytes maxL ret R H k j pc' Ls (.int v :: st) Q) : Wp b l Z own nm bytes maxL ret R H k j pc Ls st Q := by
  obtain ⟨hd, rfl⟩ := hd
  exact Wp.step (fun p e s m args below meth c T L hx hZ hby hown X hH target ht => XS.iloadN X.here hx rfl (hb hby hd) hl ht) hr
theorem wp_iload {n : Nat} {v : Int32} (hd : Dc bytes pc (.iload n) 2 pc') (hl : Ls[n]? = some (.val (.int v))) (hr : Wp b l Z own nm bytes maxL ret R H k j pc' Ls (.int v :: st) Q) : Wp b l Z own nm bytes maxL ret R H k j pc Ls st Q := by
  obtain ⟨hd, rfl⟩ := hd
  exact Wp.step (fun p e s m args below meth c T L hx hZ hby hown X hH target ht => XS.iload X.here hx rfl (hb hby hd) hl ht) hr
theorem wp_lload_n {n : Fin 4} {v : Int64} (hd : Dc bytes pc (.lload_n n) 1 pc') (hl : Ls[n.val]? = some (.val (.long v))) (hr : Wp b l Z own nm bytes maxL ret R H k j pc' Ls (.long v :: st) Q) : Wp b l Z own nm bytes maxL ret R H k j pc Ls st Q := by
  obtain ⟨hd, rfl⟩ := hd
  exact Wp.step (fun p e s m args below meth c T L hx hZ hby hown X hH target ht => XT.lloadN X.here hx rfl (hb hby hd) hl ht) hr
theorem wp_lload {n : Nat} {v : Int64} (hd : Dc bytes pc (.lload n) 2 pc') (hl : Ls[n]? = some (.val (.long v))) (hr : Wp b l Z own nm bytes maxL ret R H k j pc' Ls (.long v :: st) Q) : Wp b l Z own nm bytes maxL ret R H k j pc Ls st Q := by
  obtain ⟨hd, rfl⟩ := hd
  exact Wp.step (fun p e s m args below meth c T L hx hZ hby hown X hH target ht => XT.lload X.here hx rfl (hb hby hd) hl ht) hr
theorem wp_aload_n {n : Fin 4} {v : Value} (hd : Dc bytes pc (.aload_n n) 1 pc') (hl : Ls[n.val]? = some (.val v)) (hv : v.isRef = true) (hr : Wp b l Z own nm bytes maxL ret R H k j pc' Ls (v :: st) Q) : Wp b l Z own nm bytes maxL ret R H k j pc Ls st Q := by
  obtain ⟨hd, rfl⟩ := hd
  exact Wp.step (fun p e s m args below meth c T L hx hZ hby hown X hH target ht => XS.aloadN X.here hx rfl (hb hby hd) hl hv ht) hr
theorem wp_aload {n : Nat} {v : Value} (hd : Dc bytes pc (.aload n) 2 pc') (hl : Ls[n]? = some (.val v)) (hv : v.isRef = true) (hr : Wp b l Z own nm bytes maxL ret R H k j pc' Ls (v :: st) Q) : Wp b l Z own nm bytes maxL ret R H k j pc Ls st Q := by
  obtain ⟨hd, rfl⟩ := hd
  exact Wp.step (fun p e s m args below meth c T L hx hZ hby hown X hH target ht => XS.aload X.here hx rfl (hb hby hd) hl hv ht) hr
theorem wp_istore_n {n : Fin 4} {x : Int32} (Ls' : Array Slot) (hd : Dc bytes pc (.istore_n n) 1 pc') (hl : storeLocals Ls n.val (.int x) = some Ls') (hr : Wp b l Z own nm bytes maxL ret R H k j pc' Ls' st Q) : Wp b l Z own nm bytes maxL ret R H k j pc Ls (.int x :: st) Q := by
  obtain ⟨hd, rfl⟩ := hd
  exact Wp.step (fun p e s m args below meth c T L hx hZ hby hown X hH target ht => XS.istoreN X.here hx rfl (hb hby hd) rfl hl ht) hr
theorem wp_istore {n : Nat} {x : Int32} (Ls' : Array Slot) (hd : Dc bytes pc (.istore n) 2 pc') (hl : storeLocals Ls n (.int x) = some Ls') (hr : Wp b l Z own nm bytes maxL ret R H k j pc' Ls' st Q) : Wp b l Z own nm bytes maxL ret R H k j pc Ls (.int x :: st) Q := by
  obtain ⟨hd, rfl⟩ := hd
  exact Wp.step (fun p e s m args below meth c T L hx hZ hby hown X hH target ht => XS.istore X.here hx rfl (hb hby hd) rfl hl ht) hr
theorem wp_lstore_n {n : Fin 4} {x : Int64} (Ls' : Array Slot) (hd : Dc bytes pc (.lstore_n n) 1 pc') (hl : storeLocals Ls n.val (.long x) = some Ls') (hr : Wp b l Z own nm bytes maxL ret R H k j pc' Ls' st Q) : Wp b l Z own nm bytes maxL ret R H k j pc Ls (.long x :: st) Q := by
  obtain ⟨hd, rfl⟩ := hd
  exact Wp.step (fun p e s m args below meth c T L hx hZ hby hown X hH target ht => XT.lstoreN X.here hx rfl (hb hby hd) rfl hl ht) hr
theorem wp_lstore {n : Nat} {x : Int64} (Ls' : Array Slot) (hd : Dc bytes pc (.lstore n) 2 pc') (hl : storeLocals Ls n (.long x) = some Ls') (hr : Wp b l Z own nm bytes maxL ret R H k j pc' Ls' st Q) : Wp b l Z own nm bytes maxL ret R H k j pc Ls (.long x :: st) Q := by
  obtain ⟨hd, rfl⟩ := hd
  exact Wp.step (fun p e s m args below meth c T L hx hZ hby hown X hH target ht => XT.lstore X.here hx rfl (hb hby hd) rfl hl ht) hr
theorem wp_astore_n {n : Fin 4} {x : Value} (Ls' : Array Slot) (hd : Dc bytes pc (.astore_n n) 1 pc') (hv : x.isRef = true) (hl : storeLocals Ls n.val x = some Ls') (hr : Wp b l Z own nm bytes maxL ret R H k j pc' Ls' st Q) : Wp b l Z own nm bytes maxL ret R H k j pc Ls (x :: st) Q := by
  obtain ⟨hd, rfl⟩ := hd
  exact Wp.step (fun p e s m args below meth c T L hx hZ hby hown X hH target ht => XS.astoreN X.here hx rfl (hb hby hd) rfl hv hl ht) hr
theorem wp_astore {n : Nat} {x : Value} (Ls' : Array Slot) (hd : Dc bytes pc (.astore n) 2 pc') (hv : x.isRef = true) (hl : storeLocals Ls n x = some Ls') (hr : Wp b l Z own nm bytes maxL ret R H k j pc' Ls' st Q) : Wp b l Z own nm bytes maxL ret R H k j pc Ls (x :: st) Q := by
  obtain ⟨hd, rfl⟩ := hd
  exact Wp.step (fun p e s m args below meth c T L hx hZ hby hown X hH target ht => XS.astore X.here hx rfl (hb hby hd) rfl hv hl ht) hr
theorem wp_iinc {n : Nat} {c : Int} {x : Int32} (v : Int32) (Ls' : Array Slot) (hd : Dc bytes pc (.iinc n c) 3 pc') (hv : Int32.ofInt c = v) (hl : Ls[n]? = some (.val (.int x))) (hl' : storeLocals Ls n (.int (x + v)) = some Ls') (hr : Wp b l Z own nm bytes maxL ret R H k j pc' Ls' st Q) : Wp b l Z own nm bytes maxL ret R H k j pc Ls st Q := by
  obtain ⟨hd, rfl⟩ := hd
  exact Wp.step (fun p e s m args below meth c T L hx hZ hby hown X hH target ht => XT.iincV X.here hx rfl v (hb hby hd) hv hl hl' ht) hr
theorem wp_iconst {i : Int} (v : Int32) (hd : Dc bytes pc (.iconst i) 1 pc') (hv : Int32.ofInt i = v) (hr : Wp b l Z own nm bytes maxL ret R H k j pc' Ls (.int v :: st) Q) : Wp b l Z own nm bytes maxL ret R H k j pc Ls st Q := by
  obtain ⟨hd, rfl⟩ := hd
  exact Wp.step (fun p e s m args below meth c T L hx hZ hby hown X hH target ht => XT.iconstV X.here hx rfl v (hb hby hd) hv ht) hr
theorem wp_bipush {i : Int} (v : Int32) (hd : Dc bytes pc (.bipush i) 2 pc') (hv : (Int8.ofInt i).toInt32 = v) (hr : Wp b l Z own nm bytes maxL ret R H k j pc' Ls (.int v :: st) Q) : Wp b l Z own nm bytes maxL ret R H k j pc Ls st Q := by
  obtain ⟨hd, rfl⟩ := hd
  exact Wp.step (fun p e s m args below meth c T L hx hZ hby hown X hH target ht => XT.bipushV X.here hx rfl v (hb hby hd) hv ht) hr
theorem wp_sipush {i : Int} (v : Int32) (hd : Dc bytes pc (.sipush i) 3 pc') (hv : (Int16.ofInt i).toInt32 = v) (hr : Wp b l Z own nm bytes maxL ret R H k j pc' Ls (.int v :: st) Q) : Wp b l Z own nm bytes maxL ret R H k j pc Ls st Q := by
  obtain ⟨hd, rfl⟩ := hd
  exact Wp.step (fun p e s m args below meth c T L hx hZ hby hown X hH target ht => XT.sipushV X.here hx rfl v (hb hby hd) hv ht) hr
theorem wp_lconst {i : Fin 2} (v : Int64) (hd : Dc bytes pc (.lconst i) 1 pc') (hv : Int64.ofNat i = v) (hr : Wp b l Z own nm bytes maxL ret R H k j pc' Ls (.long v :: st) Q) : Wp b l Z own nm bytes maxL ret R H k j pc Ls st Q := by
  obtain ⟨hd, rfl⟩ := hd
  exact Wp.step (fun p e s m args below meth c T L hx hZ hby hown X hH target ht => XT.lconstV X.here hx rfl v (hb hby hd) hv ht) hr
theorem wp_aconst_null  (hd : Dc bytes pc (.aconst_null) 1 pc')  (hr : Wp b l Z own nm bytes maxL ret R H k j pc' Ls (.null :: st) Q) : Wp b l Z own nm bytes maxL ret R H k j pc Ls st Q := by
  obtain ⟨hd, rfl⟩ := hd
  exact Wp.step (fun p e s m args below meth c T L hx hZ hby hown X hH target ht => XS.aconstNull X.here hx rfl (hb hby hd)  ht) hr
theorem wp_dup {x : Value} (hd : Dc bytes pc (.dup) 1 pc') (hc : x.category = 1) (hr : Wp b l Z own nm bytes maxL ret R H k j pc' Ls (x :: x :: st) Q) : Wp b l Z own nm bytes maxL ret R H k j pc Ls (x :: st) Q := by
  obtain ⟨hd, rfl⟩ := hd
  exact Wp.step (fun p e s m args below meth c T L hx hZ hby hown X hH target ht => XS.dup X.here hx rfl (hb hby hd) rfl hc ht) hr
theorem wp_pop {x : Value} (hd : Dc bytes pc (.pop) 1 pc') (hc : x.category = 1) (hr : Wp b l Z own nm bytes maxL ret R H k j pc' Ls st Q) : Wp b l Z own nm bytes maxL ret R H k j pc Ls (x :: st) Q := by
  obtain ⟨hd, rfl⟩ := hd
  exact Wp.step (fun p e s m args below meth c T L hx hZ hby hown X hH target ht => XT.pop X.here hx rfl (hb hby hd) rfl hc ht) hr
theorem wp_dup_x1 {x y : Value} (hd : Dc bytes pc (.dup_x1) 1 pc') (hc : x.category = 1) (hc' : y.category = 1) (hr : Wp b l Z own nm bytes maxL ret R H k j pc' Ls (x :: y :: x :: st) Q) : Wp b l Z own nm bytes maxL ret R H k j pc Ls (x :: y :: st) Q := by
  obtain ⟨hd, rfl⟩ := hd
  exact Wp.step (fun p e s m args below meth c T L hx hZ hby hown X hH target ht => XT.dupX1 X.here hx rfl (hb hby hd) rfl hc hc' ht) hr
theorem wp_dup2 {x y : Value} (hd : Dc bytes pc (.dup2) 1 pc') (hc : x.category = 1) (hc' : y.category = 1) (hr : Wp b l Z own nm bytes maxL ret R H k j pc' Ls (x :: y :: x :: y :: st) Q) : Wp b l Z own nm bytes maxL ret R H k j pc Ls (x :: y :: st) Q := by
  obtain ⟨hd, rfl⟩ := hd
  exact Wp.step (fun p e s m args below meth c T L hx hZ hby hown X hH target ht => XT.dup2 X.here hx rfl (hb hby hd) rfl hc hc' ht) hr
theorem wp_dup2L {x : Int64} (hd : Dc bytes pc (.dup2) 1 pc')  (hr : Wp b l Z own nm bytes maxL ret R H k j pc' Ls (.long x :: .long x :: st) Q) : Wp b l Z own nm bytes maxL ret R H k j pc Ls (.long x :: st) Q := by
  obtain ⟨hd, rfl⟩ := hd
  exact Wp.step (fun p e s m args below meth c T L hx hZ hby hown X hH target ht => XT.dup2L X.here hx rfl (hb hby hd) rfl ht) hr
theorem wp_ldcI {i : Nat} {v : Int32} (hd : Dc bytes pc (.ldc i) 2 pc') (w : (Cond.constant own i v).before a0 Z = true) (hr : Wp b l Z own nm bytes maxL ret R H k j pc' Ls (.int v :: st) Q) : Wp b l Z own nm bytes maxL ret R H k j pc Ls st Q := by
  obtain ⟨hd, rfl⟩ := hd
  exact Wp.step (fun p e s m args below meth c T L hx hZ hby hown X hH target ht => Jvm.Stand.ldcI X hx hown (mvT hZ w) rfl (hb hby hd) ht) hr
theorem wp_ldcWI {i : Nat} {v : Int32} (hd : Dc bytes pc (.ldc_w i) 3 pc') (w : (Cond.constant own i v).before a0 Z = true) (hr : Wp b l Z own nm bytes maxL ret R H k j pc' Ls (.int v :: st) Q) : Wp b l Z own nm bytes maxL ret R H k j pc Ls st Q := by
  obtain ⟨hd, rfl⟩ := hd
  exact Wp.step (fun p e s m args below meth c T L hx hZ hby hown X hH target ht => Jvm.Stand.ldcWI X hx hown (mvT hZ w) rfl (hb hby hd) ht) hr
theorem wp_ldc2J {i : Nat} {v : Int64} (hd : Dc bytes pc (.ldc2_w i) 3 pc') (w : (Cond.constantLong own i v).before a0 Z = true) (hr : Wp b l Z own nm bytes maxL ret R H k j pc' Ls (.long v :: st) Q) : Wp b l Z own nm bytes maxL ret R H k j pc Ls st Q := by
  obtain ⟨hd, rfl⟩ := hd
  exact Wp.step (fun p e s m args below meth c T L hx hZ hby hown X hH target ht => Jvm.Stand.ldc2J X hx hown (mvT hZ w) rfl (hb hby hd) ht) hr
theorem wp_instNull {i : Nat} (hd : Dc bytes pc (.instanceof i) 3 pc')  (hr : Wp b l Z own nm bytes maxL ret R H k j pc' Ls (.int 0 :: st) Q) : Wp b l Z own nm bytes maxL ret R H k j pc Ls (.null :: st) Q := by
  obtain ⟨hd, rfl⟩ := hd
  exact Wp.step (fun p e s m args below meth c T L hx hZ hby hown X hH target ht => X.instanceofNull hx (g := mkF m pc Ls (.null :: st)) rfl rfl (hb hby hd) _ ht) hr
theorem wp_castNull {i : Nat} (hd : Dc bytes pc (.checkcast i) 3 pc')  (hr : Wp b l Z own nm bytes maxL ret R H k j pc' Ls (.null :: st) Q) : Wp b l Z own nm bytes maxL ret R H k j pc Ls (.null :: st) Q := by
  obtain ⟨hd, rfl⟩ := hd
  exact Wp.step (fun p e s m args below meth c T L hx hZ hby hown X hH target ht => X.checkcastNull hx (g := mkF m pc Ls (.null :: st)) rfl rfl (hb hby hd) _ ht) hr
theorem wp_goto {o : Int} {n pc'' : Nat} (hd : Dc bytes pc (.goto o) 3 n) (ht : Tg pc o pc'') (hr : Wp b l Z own nm bytes maxL ret R H k j pc'' Ls st Q) : Wp b l Z own nm bytes maxL ret R H k j pc Ls st Q :=
  Wp.step (fun p e s m args below meth c T L hx hZ hby hown X hH target h => XS.goto X.here hx rfl rfl (hb hby hd.1) ht.1 ht.2 h) hr
theorem wp_icmp {cd : ClassFile.Cond} {o : Int} {x y : Int32} {pc'' : Nat} (hd : Dc bytes pc (.if_icmp cd o) 3 pc') (ht : Tg pc o pc'') (hy : if_icmp.holds cd x y = true → Wp b l Z own nm bytes maxL ret R H k j pc'' Ls st Q) (hn : if_icmp.holds cd x y = false → Wp b l Z own nm bytes maxL ret R H k j pc' Ls st Q) : Wp b l Z own nm bytes maxL ret R H k j pc Ls (.int y :: .int x :: st) Q := by
  obtain ⟨hd, rfl⟩ := hd
  cases hc : if_icmp.holds cd x y with
  | true => exact Wp.step (fun p e s m args below meth c T L hx hZ hby hown X hH target h => XS.icmpYes X.here hx rfl rfl (hb hby hd) rfl hc ht.1 ht.2 h) (hy hc)
  | false => exact Wp.step (fun p e s m args below meth c T L hx hZ hby hown X hH target h => XS.icmpNo X.here hx rfl (hb hby hd) rfl hc h) (hn hc)
theorem wp_if {cd : ClassFile.Cond} {o : Int} {x : Int32} {pc'' : Nat} (hd : Dc bytes pc (.ifCond cd o) 3 pc') (ht : Tg pc o pc'') (hy : ifCond.holds cd x = true → Wp b l Z own nm bytes maxL ret R H k j pc'' Ls st Q) (hn : ifCond.holds cd x = false → Wp b l Z own nm bytes maxL ret R H k j pc' Ls st Q) : Wp b l Z own nm bytes maxL ret R H k j pc Ls (.int x :: st) Q := by
  obtain ⟨hd, rfl⟩ := hd
  cases hc : ifCond.holds cd x with
  | true => exact Wp.step (fun p e s m args below meth c T L hx hZ hby hown X hH target h => XS.ifYes X.here hx rfl rfl (hb hby hd) rfl hc ht.1 ht.2 h) (hy hc)
  | false => exact Wp.step (fun p e s m args below meth c T L hx hZ hby hown X hH target h => XS.ifNo X.here hx rfl (hb hby hd) rfl hc h) (hn hc)
theorem icmp_holds (cd : ClassFile.Cond) (x y : Int32) : (if_icmp.holds .eq x y = decide (x = y)) ∧ (if_icmp.holds .ne x y = !decide (x = y)) ∧ (if_icmp.holds .lt x y = decide (x < y)) ∧ (if_icmp.holds .ge x y = !decide (x < y)) ∧ (if_icmp.holds .gt x y = decide (y < x)) ∧ (if_icmp.holds .le x y = !decide (y < x)) := by
  refine ⟨?_, ?_, ?_, ?_, ?_, ?_⟩
  · by_cases h : x = y <;> simp [h, if_icmp.holds]
  · by_cases h : x = y <;> simp [h, if_icmp.holds]
  · by_cases h : x < y <;> simp [h, if_icmp.holds]
  · by_cases h : x < y
    · simp [h, (tlt h).2.1]
    · simp [h, (flt h).2.1]
  · by_cases h : y < x
    · simp [h, (tlt h).2.2.1]
    · simp [h, (flt h).2.2.1]
  · by_cases h : y < x
    · simp [h, (tlt h).2.2.2]
    · simp [h, (flt h).2.2.2]
theorem wp_icmp_eq {o : Int} {x y : Int32} {pc'' : Nat} (hd : Dc bytes pc (.if_icmp .eq o) 3 pc') (ht : Tg pc o pc'') (hy : x = y → Wp b l Z own nm bytes maxL ret R H k j pc'' Ls st Q) (hn : ¬ x = y → Wp b l Z own nm bytes maxL ret R H k j pc' Ls st Q) : Wp b l Z own nm bytes maxL ret R H k j pc Ls (.int y :: .int x :: st) Q :=
  wp_icmp hd ht (fun h => hy (by rw [(icmp_holds .eq x y).1] at h; simpa using h)) (fun h => hn (by rw [(icmp_holds .eq x y).1] at h; simpa using h))
theorem wp_if_eq {o : Int} {x : Int32} {pc'' : Nat} (hd : Dc bytes pc (.ifCond .eq o) 3 pc') (ht : Tg pc o pc'') (hy : x = 0 → Wp b l Z own nm bytes maxL ret R H k j pc'' Ls st Q) (hn : ¬ x = 0 → Wp b l Z own nm bytes maxL ret R H k j pc' Ls st Q) : Wp b l Z own nm bytes maxL ret R H k j pc Ls (.int x :: st) Q :=
  wp_if hd ht (fun h => hy (by rw [if0, (icmp_holds .eq x 0).1] at h; simpa using h)) (fun h => hn (by rw [if0, (icmp_holds .eq x 0).1] at h; simpa using h))
theorem wp_icmp_ne {o : Int} {x y : Int32} {pc'' : Nat} (hd : Dc bytes pc (.if_icmp .ne o) 3 pc') (ht : Tg pc o pc'') (hy : ¬ x = y → Wp b l Z own nm bytes maxL ret R H k j pc'' Ls st Q) (hn : x = y → Wp b l Z own nm bytes maxL ret R H k j pc' Ls st Q) : Wp b l Z own nm bytes maxL ret R H k j pc Ls (.int y :: .int x :: st) Q :=
  wp_icmp hd ht (fun h => hy (by rw [(icmp_holds .eq x y).2.1] at h; simpa using h)) (fun h => hn (by rw [(icmp_holds .eq x y).2.1] at h; simpa using h))
theorem wp_if_ne {o : Int} {x : Int32} {pc'' : Nat} (hd : Dc bytes pc (.ifCond .ne o) 3 pc') (ht : Tg pc o pc'') (hy : ¬ x = 0 → Wp b l Z own nm bytes maxL ret R H k j pc'' Ls st Q) (hn : x = 0 → Wp b l Z own nm bytes maxL ret R H k j pc' Ls st Q) : Wp b l Z own nm bytes maxL ret R H k j pc Ls (.int x :: st) Q :=
  wp_if hd ht (fun h => hy (by rw [if0, (icmp_holds .eq x 0).2.1] at h; simpa using h)) (fun h => hn (by rw [if0, (icmp_holds .eq x 0).2.1] at h; simpa using h))
theorem wp_icmp_lt {o : Int} {x y : Int32} {pc'' : Nat} (hd : Dc bytes pc (.if_icmp .lt o) 3 pc') (ht : Tg pc o pc'') (hy : x < y → Wp b l Z own nm bytes maxL ret R H k j pc'' Ls st Q) (hn : ¬ x < y → Wp b l Z own nm bytes maxL ret R H k j pc' Ls st Q) : Wp b l Z own nm bytes maxL ret R H k j pc Ls (.int y :: .int x :: st) Q :=
  wp_icmp hd ht (fun h => hy (by rw [(icmp_holds .eq x y).2.2.1] at h; simpa using h)) (fun h => hn (by rw [(icmp_holds .eq x y).2.2.1] at h; simpa using h))
theorem wp_if_lt {o : Int} {x : Int32} {pc'' : Nat} (hd : Dc bytes pc (.ifCond .lt o) 3 pc') (ht : Tg pc o pc'') (hy : x < 0 → Wp b l Z own nm bytes maxL ret R H k j pc'' Ls st Q) (hn : ¬ x < 0 → Wp b l Z own nm bytes maxL ret R H k j pc' Ls st Q) : Wp b l Z own nm bytes maxL ret R H k j pc Ls (.int x :: st) Q :=
  wp_if hd ht (fun h => hy (by rw [if0, (icmp_holds .eq x 0).2.2.1] at h; simpa using h)) (fun h => hn (by rw [if0, (icmp_holds .eq x 0).2.2.1] at h; simpa using h))
theorem wp_icmp_ge {o : Int} {x y : Int32} {pc'' : Nat} (hd : Dc bytes pc (.if_icmp .ge o) 3 pc') (ht : Tg pc o pc'') (hy : ¬ x < y → Wp b l Z own nm bytes maxL ret R H k j pc'' Ls st Q) (hn : x < y → Wp b l Z own nm bytes maxL ret R H k j pc' Ls st Q) : Wp b l Z own nm bytes maxL ret R H k j pc Ls (.int y :: .int x :: st) Q :=
  wp_icmp hd ht (fun h => hy (by rw [(icmp_holds .eq x y).2.2.2.1] at h; simpa using h)) (fun h => hn (by rw [(icmp_holds .eq x y).2.2.2.1] at h; simpa using h))
theorem wp_if_ge {o : Int} {x : Int32} {pc'' : Nat} (hd : Dc bytes pc (.ifCond .ge o) 3 pc') (ht : Tg pc o pc'') (hy : ¬ x < 0 → Wp b l Z own nm bytes maxL ret R H k j pc'' Ls st Q) (hn : x < 0 → Wp b l Z own nm bytes maxL ret R H k j pc' Ls st Q) : Wp b l Z own nm bytes maxL ret R H k j pc Ls (.int x :: st) Q :=
  wp_if hd ht (fun h => hy (by rw [if0, (icmp_holds .eq x 0).2.2.2.1] at h; simpa using h)) (fun h => hn (by rw [if0, (icmp_holds .eq x 0).2.2.2.1] at h; simpa using h))
theorem wp_icmp_gt {o : Int} {x y : Int32} {pc'' : Nat} (hd : Dc bytes pc (.if_icmp .gt o) 3 pc') (ht : Tg pc o pc'') (hy : y < x → Wp b l Z own nm bytes maxL ret R H k j pc'' Ls st Q) (hn : ¬ y < x → Wp b l Z own nm bytes maxL ret R H k j pc' Ls st Q) : Wp b l Z own nm bytes maxL ret R H k j pc Ls (.int y :: .int x :: st) Q :=
  wp_icmp hd ht (fun h => hy (by rw [(icmp_holds .eq x y).2.2.2.2.1] at h; simpa using h)) (fun h => hn (by rw [(icmp_holds .eq x y).2.2.2.2.1] at h; simpa using h))
theorem wp_if_gt {o : Int} {x : Int32} {pc'' : Nat} (hd : Dc bytes pc (.ifCond .gt o) 3 pc') (ht : Tg pc o pc'') (hy : 0 < x → Wp b l Z own nm bytes maxL ret R H k j pc'' Ls st Q) (hn : ¬ 0 < x → Wp b l Z own nm bytes maxL ret R H k j pc' Ls st Q) : Wp b l Z own nm bytes maxL ret R H k j pc Ls (.int x :: st) Q :=
  wp_if hd ht (fun h => hy (by rw [if0, (icmp_holds .eq x 0).2.2.2.2.1] at h; simpa using h)) (fun h => hn (by rw [if0, (icmp_holds .eq x 0).2.2.2.2.1] at h; simpa using h))
theorem wp_icmp_le {o : Int} {x y : Int32} {pc'' : Nat} (hd : Dc bytes pc (.if_icmp .le o) 3 pc') (ht : Tg pc o pc'') (hy : ¬ y < x → Wp b l Z own nm bytes maxL ret R H k j pc'' Ls st Q) (hn : y < x → Wp b l Z own nm bytes maxL ret R H k j pc' Ls st Q) : Wp b l Z own nm bytes maxL ret R H k j pc Ls (.int y :: .int x :: st) Q :=
  wp_icmp hd ht (fun h => hy (by rw [(icmp_holds .eq x y).2.2.2.2.2] at h; simpa using h)) (fun h => hn (by rw [(icmp_holds .eq x y).2.2.2.2.2] at h; simpa using h))
theorem wp_if_le {o : Int} {x : Int32} {pc'' : Nat} (hd : Dc bytes pc (.ifCond .le o) 3 pc') (ht : Tg pc o pc'') (hy : ¬ 0 < x → Wp b l Z own nm bytes maxL ret R H k j pc'' Ls st Q) (hn : 0 < x → Wp b l Z own nm bytes maxL ret R H k j pc' Ls st Q) : Wp b l Z own nm bytes maxL ret R H k j pc Ls (.int x :: st) Q :=
  wp_if hd ht (fun h => hy (by rw [if0, (icmp_holds .eq x 0).2.2.2.2.2] at h; simpa using h)) (fun h => hn (by rw [if0, (icmp_holds .eq x 0).2.2.2.2.2] at h; simpa using h))
theorem cmpL_0 (x y : Int64) : (XT.cmpL x y = 0 ↔ x = y) ∧ (XT.cmpL x y < 0 ↔ x < y) ∧ (0 < XT.cmpL x y ↔ y < x) := by
  unfold XT.cmpL
  by_cases h1 : y < x
  · have h2 : ¬ x = y := by rintro rfl; exact absurd h1 (by simp [Int64.lt_iff_toInt_lt])
    have h3 : ¬ x < y := by rw [Int64.lt_iff_toInt_lt] at h1 ⊢; omega
    simp [h1, h2, h3]
  · by_cases h2 : x = y
    · subst h2; simp [Int64.lt_iff_toInt_lt]
    · have h3 : x < y := by rw [Int64.lt_iff_toInt_lt] at h1 ⊢; have := mt Int64.toInt_inj.mp h2; omega
      simp [h1, h2, h3]
theorem wp_lcmp_eq {o : Int} {x y : Int64} {pc1 pc'' : Nat} (hd0 : Dc bytes pc .lcmp 1 pc1) (hd : Dc bytes pc1 (.ifCond .eq o) 3 pc') (ht : Tg pc1 o pc'') (hy : x = y → Wp b l Z own nm bytes maxL ret R H k j pc'' Ls st Q) (hn : ¬ x = y → Wp b l Z own nm bytes maxL ret R H k j pc' Ls st Q) : Wp b l Z own nm bytes maxL ret R H k j pc Ls (.long y :: .long x :: st) Q :=
  wp_lcmp hd0 (wp_if_eq hd ht (fun h => hy (by rw [(cmpL_0 x y).1] at h; exact h)) (fun h => hn (by rw [(cmpL_0 x y).1] at h; exact h)))
theorem wp_lcmp_ne {o : Int} {x y : Int64} {pc1 pc'' : Nat} (hd0 : Dc bytes pc .lcmp 1 pc1) (hd : Dc bytes pc1 (.ifCond .ne o) 3 pc') (ht : Tg pc1 o pc'') (hy : ¬ x = y → Wp b l Z own nm bytes maxL ret R H k j pc'' Ls st Q) (hn : x = y → Wp b l Z own nm bytes maxL ret R H k j pc' Ls st Q) : Wp b l Z own nm bytes maxL ret R H k j pc Ls (.long y :: .long x :: st) Q :=
  wp_lcmp hd0 (wp_if_ne hd ht (fun h => hy (by rw [(cmpL_0 x y).1] at h; exact h)) (fun h => hn (by rw [(cmpL_0 x y).1] at h; exact h)))
theorem wp_lcmp_lt {o : Int} {x y : Int64} {pc1 pc'' : Nat} (hd0 : Dc bytes pc .lcmp 1 pc1) (hd : Dc bytes pc1 (.ifCond .lt o) 3 pc') (ht : Tg pc1 o pc'') (hy : x < y → Wp b l Z own nm bytes maxL ret R H k j pc'' Ls st Q) (hn : ¬ x < y → Wp b l Z own nm bytes maxL ret R H k j pc' Ls st Q) : Wp b l Z own nm bytes maxL ret R H k j pc Ls (.long y :: .long x :: st) Q :=
  wp_lcmp hd0 (wp_if_lt hd ht (fun h => hy (by rw [(cmpL_0 x y).2.1] at h; exact h)) (fun h => hn (by rw [(cmpL_0 x y).2.1] at h; exact h)))
theorem wp_lcmp_ge {o : Int} {x y : Int64} {pc1 pc'' : Nat} (hd0 : Dc bytes pc .lcmp 1 pc1) (hd : Dc bytes pc1 (.ifCond .ge o) 3 pc') (ht : Tg pc1 o pc'') (hy : ¬ x < y → Wp b l Z own nm bytes maxL ret R H k j pc'' Ls st Q) (hn : x < y → Wp b l Z own nm bytes maxL ret R H k j pc' Ls st Q) : Wp b l Z own nm bytes maxL ret R H k j pc Ls (.long y :: .long x :: st) Q :=
  wp_lcmp hd0 (wp_if_ge hd ht (fun h => hy (by rw [(cmpL_0 x y).2.1] at h; exact h)) (fun h => hn (by rw [(cmpL_0 x y).2.1] at h; exact h)))
theorem wp_lcmp_gt {o : Int} {x y : Int64} {pc1 pc'' : Nat} (hd0 : Dc bytes pc .lcmp 1 pc1) (hd : Dc bytes pc1 (.ifCond .gt o) 3 pc') (ht : Tg pc1 o pc'') (hy : y < x → Wp b l Z own nm bytes maxL ret R H k j pc'' Ls st Q) (hn : ¬ y < x → Wp b l Z own nm bytes maxL ret R H k j pc' Ls st Q) : Wp b l Z own nm bytes maxL ret R H k j pc Ls (.long y :: .long x :: st) Q :=
  wp_lcmp hd0 (wp_if_gt hd ht (fun h => hy (by rw [(cmpL_0 x y).2.2] at h; exact h)) (fun h => hn (by rw [(cmpL_0 x y).2.2] at h; exact h)))
theorem wp_lcmp_le {o : Int} {x y : Int64} {pc1 pc'' : Nat} (hd0 : Dc bytes pc .lcmp 1 pc1) (hd : Dc bytes pc1 (.ifCond .le o) 3 pc') (ht : Tg pc1 o pc'') (hy : ¬ y < x → Wp b l Z own nm bytes maxL ret R H k j pc'' Ls st Q) (hn : y < x → Wp b l Z own nm bytes maxL ret R H k j pc' Ls st Q) : Wp b l Z own nm bytes maxL ret R H k j pc Ls (.long y :: .long x :: st) Q :=
  wp_lcmp hd0 (wp_if_le hd ht (fun h => hy (by rw [(cmpL_0 x y).2.2] at h; exact h)) (fun h => hn (by rw [(cmpL_0 x y).2.2] at h; exact h)))
theorem wp_ifnull_y {o : Int} {n pc'' : Nat} (hd : Dc bytes pc (.ifnull o) 3 n) (ht : Tg pc o pc'') (hr : Wp b l Z own nm bytes maxL ret R H k j pc'' Ls st Q) : Wp b l Z own nm bytes maxL ret R H k j pc Ls (.null :: st) Q :=
  Wp.step (fun p e s m args below meth c T L hx hZ hby hown X hH target h => XS.ifnullYes X.here hx rfl rfl (hb hby hd.1) rfl ht.1 ht.2 h) hr
theorem wp_ifnull_n {o : Int} {x : Addr} (hd : Dc bytes pc (.ifnull o) 3 pc') (hr : Wp b l Z own nm bytes maxL ret R H k j pc' Ls st Q) : Wp b l Z own nm bytes maxL ret R H k j pc Ls (.ref x :: st) Q := by
  obtain ⟨hd, rfl⟩ := hd
  exact Wp.step (fun p e s m args below meth c T L hx hZ hby hown X hH target h => XS.ifnullNo X.here hx rfl (hb hby hd) rfl h) hr
theorem wp_ifnonnull_y {o : Int} {x : Addr} {n pc'' : Nat} (hd : Dc bytes pc (.ifnonnull o) 3 n) (ht : Tg pc o pc'') (hr : Wp b l Z own nm bytes maxL ret R H k j pc'' Ls st Q) : Wp b l Z own nm bytes maxL ret R H k j pc Ls (.ref x :: st) Q :=
  Wp.step (fun p e s m args below meth c T L hx hZ hby hown X hH target h => XT.ifnonnullYes X.here hx rfl rfl (hb hby hd.1) rfl ht.1 ht.2 h) hr
theorem wp_ifnonnull_n {o : Int} (hd : Dc bytes pc (.ifnonnull o) 3 pc') (hr : Wp b l Z own nm bytes maxL ret R H k j pc' Ls st Q) : Wp b l Z own nm bytes maxL ret R H k j pc Ls (.null :: st) Q := by
  obtain ⟨hd, rfl⟩ := hd
  exact Wp.step (fun p e s m args below meth c T L hx hZ hby hown X hH target h => XT.ifnonnullNo X.here hx rfl (hb hby hd) rfl h) hr
theorem wp_acmp {cd : ClassFile.ACond} {o : Int} {x y : Value} {pc'' : Nat} (hd : Dc bytes pc (.if_acmp cd o) 3 pc') (ht : Tg pc o pc'') (h1 : x.isRef = true) (h2 : y.isRef = true) (hy : acV cd (decide (x = y)) = true → Wp b l Z own nm bytes maxL ret R H k j pc'' Ls st Q) (hn : acV cd (decide (x = y)) = false → Wp b l Z own nm bytes maxL ret R H k j pc' Ls st Q) : Wp b l Z own nm bytes maxL ret R H k j pc Ls (y :: x :: st) Q := by
  obtain ⟨hd, rfl⟩ := hd
  cases hc : acV cd (decide (x = y)) with
  | true => exact Wp.step (fun p e s m args below meth c T L hx hZ hby hown X hH target h => acmp X hx rfl h1 h2 (pc0 := pc) rfl (hb hby hd) rfl rfl ht.1 (by rw [if_pos hc]; exact ht.2.symm) h) (hy hc)
  | false => exact Wp.step (fun p e s m args below meth c T L hx hZ hby hown X hH target h => acmp X hx rfl h1 h2 (pc0 := pc) rfl (hb hby hd) rfl rfl ht.1 (by rw [hc]; rfl) h) (hn hc)
theorem wp_acmp_eq {o : Int} {x y : Value} {pc'' : Nat} (hd : Dc bytes pc (.if_acmp .eq o) 3 pc') (ht : Tg pc o pc'') (h1 : x.isRef = true) (h2 : y.isRef = true) (hy : x = y → Wp b l Z own nm bytes maxL ret R H k j pc'' Ls st Q) (hn : ¬ x = y → Wp b l Z own nm bytes maxL ret R H k j pc' Ls st Q) : Wp b l Z own nm bytes maxL ret R H k j pc Ls (y :: x :: st) Q :=
  wp_acmp hd ht h1 h2 (fun h => hy (by simpa [acV] using h)) (fun h => hn (by simpa [acV] using h))
theorem wp_acmp_ne {o : Int} {x y : Value} {pc'' : Nat} (hd : Dc bytes pc (.if_acmp .ne o) 3 pc') (ht : Tg pc o pc'') (h1 : x.isRef = true) (h2 : y.isRef = true) (hy : ¬ x = y → Wp b l Z own nm bytes maxL ret R H k j pc'' Ls st Q) (hn : x = y → Wp b l Z own nm bytes maxL ret R H k j pc' Ls st Q) : Wp b l Z own nm bytes maxL ret R H k j pc Ls (y :: x :: st) Q :=
  wp_acmp hd ht h1 h2 (fun h => hy (by simpa [acV] using h)) (fun h => hn (by simpa [acV] using h))
theorem wp_return  (hd : Dc bytes pc .return_ 1 pc') (hr : ret = none) (hk : k ≤ R.cells) (hj : j ≤ R.slots) (hQ : Q none H) : Wp b l Z own nm bytes maxL ret R H k j pc Ls [] Q :=
  fun p e s vm0 k0 m args below meth c T L hx hZ hS hkz hby hml hown hnm hret X N hH hB => ⟨T, none, L, k, j, vm0, k0, H, ⟨hS, hkz, fun _ => rfl⟩, X, ⟨hk, hj, Nat.le_refl _⟩, N, hH, fun h => by first | rfl | (rw [hr] at h; cases h), hQ, fun fs hl => X.returnOut hx (hret.trans hr) (hb hby hd.1) hl⟩
theorem wp_ireturn {x : Int32} (hd : Dc bytes pc .ireturn 1 pc') (hr : ret = some .int) (hk : k ≤ R.cells) (hj : j ≤ R.slots) (hQ : Q (some (.int x)) H) : Wp b l Z own nm bytes maxL ret R H k j pc Ls (.int x :: st) Q :=
  fun p e s vm0 k0 m args below meth c T L hx hZ hS hkz hby hml hown hnm hret X N hH hB => ⟨T, (some (.int x)), L, k, j, vm0, k0, H, ⟨hS, hkz, fun _ => rfl⟩, X, ⟨hk, hj, Nat.le_refl _⟩, N, hH, fun h => by first | rfl | (rw [hr] at h; cases h), hQ, fun fs hl => retOut X hx (hret.trans hr) rfl (Or.inl ⟨rfl, Or.inl rfl, x, rfl⟩) (hb hby hd.1) hl⟩
theorem wp_ireturnN {x : Int32} {t : FieldType} (hd : Dc bytes pc .ireturn 1 pc') (hr : ret = some t) (ht : t = .boolean ∨ t = .byte ∨ t = .char ∨ t = .short) (hk : k ≤ R.cells) (hj : j ≤ R.slots) (hQ : Q (some (.int (nar t x))) H) : Wp b l Z own nm bytes maxL ret R H k j pc Ls (.int x :: st) Q :=
  fun p e s vm0 k0 m args below meth c T L hx hZ hS hkz hby hml hown hnm hret X N hH hB => ⟨T, (some (.int (nar t x))), L, k, j, vm0, k0, H, ⟨hS, hkz, fun _ => rfl⟩, X, ⟨hk, hj, Nat.le_refl _⟩, N, hH, fun h => by first | rfl | (rw [hr] at h; cases h), hQ, fun fs hl => retN X hx (hret.trans hr) ht (hb hby hd.1) hl⟩
theorem wp_lreturn {x : Int64} (hd : Dc bytes pc .lreturn 1 pc') (hr : ret = some .long) (hk : k ≤ R.cells) (hj : j ≤ R.slots) (hQ : Q (some (.long x)) H) : Wp b l Z own nm bytes maxL ret R H k j pc Ls (.long x :: st) Q :=
  fun p e s vm0 k0 m args below meth c T L hx hZ hS hkz hby hml hown hnm hret X N hH hB => ⟨T, (some (.long x)), L, k, j, vm0, k0, H, ⟨hS, hkz, fun _ => rfl⟩, X, ⟨hk, hj, Nat.le_refl _⟩, N, hH, fun h => by first | rfl | (rw [hr] at h; cases h), hQ, fun fs hl => retOut X hx (hret.trans hr) rfl (Or.inr (Or.inl ⟨rfl, rfl, x, rfl⟩)) (hb hby hd.1) hl⟩
theorem wp_areturn {x : Value} {t : FieldType} (hd : Dc bytes pc .areturn 1 pc') (hr : ret = some t) (ht : t.isReference = true) (hn : narrow t x = x) (hv : x.isRef = true) (hk : k ≤ R.cells) (hj : j ≤ R.slots) (hQ : Q (some x) H) : Wp b l Z own nm bytes maxL ret R H k j pc Ls (x :: st) Q :=
  fun p e s vm0 k0 m args below meth c T L hx hZ hS hkz hby hml hown hnm hret X N hH hB => ⟨T, (some x), L, k, j, vm0, k0, H, ⟨hS, hkz, fun _ => rfl⟩, X, ⟨hk, hj, Nat.le_refl _⟩, N, hH, fun h => by first | rfl | (rw [hr] at h; cases h), hQ, fun fs hl => retOut X hx (hret.trans hr) hn (Or.inr (Or.inr (Or.inr (Or.inr ⟨rfl, ht, hv⟩)))) (hb hby hd.1) hl⟩
def FldAt (Z : State) (H : OH) (a : Addr) (O n d : String) (v : Value) : Prop := ∀ h, Hp Z h H → Fld Z h a O n d v
def ExaAt (Z : State) (H : OH) (a : Addr) (C : String) : Prop := ∀ h, Hp Z h H → Exa Z h a C
theorem fld_new {i fi : Nat} {a : Addr} {fl : Bool} {C O n d : String} {sg : OSig} {vs : List Value} {v : Value} (hi : H[i]? = some (a, (fl, .inl (C, sg, vs)))) (hf : sg[fi]? = some (O, n, d)) (hv : vs[fi]? = some v) : FldAt Z H a O n d v := fun h P => (P.at hi).2.2.2 fi _ v hf hv
theorem fld_old {a : Addr} {O n d : String} {v : Value} (F : Fld Z Z.heap a O n d v) : FldAt Z H a O n d v := fun h P => F.ext P.1
theorem exa_new {i : Nat} {a : Addr} {fl : Bool} {C : String} {sg : OSig} {vs : List Value} (hi : H[i]? = some (a, (fl, .inl (C, sg, vs)))) : ExaAt Z H a C := fun h P => (P.at hi).2.1
theorem exa_old {a : Addr} {C : String} (F : Exa Z Z.heap a C) : ExaAt Z H a C := fun h P => F.ext P.1
theorem wp_getfield {a : Addr} {O n d : String} {v : Value} {idx : Nat} (hd : Dc bytes pc (.getfield idx) 3 pc') (w : (Cond.fieldLink own idx O n d).before a0 Z = true) (F : FldAt Z H a O n d v) (hr : Wp b l Z own nm bytes maxL ret R H k j pc' Ls (v :: st) Q) : Wp b l Z own nm bytes maxL ret R H k j pc Ls (.ref a :: st) Q := by
  obtain ⟨hd, rfl⟩ := hd
  refine Wp.stepH fun p e s m args below meth c T L hx hZ hby hml hown hnm hret X N hH => ?_
  obtain ⟨T', X', e', stp⟩ := getF X hx hZ hown (host := "") (Or.inl w) Via.refl rfl (F _ hH) (g := mkF m pc Ls (.ref a :: st)) rfl rfl (hb hby hd)
  exact ⟨T', L, k, j, H, _, Ls, v :: st, X', by rw [e']; exact Nat.le_refl _, N, by rw [e']; exact hH, hr, stp⟩
theorem wp_getfieldVia {a : Addr} {R0 O n d : String} {v : Value} {idx : Nat} (hd : Dc bytes pc (.getfield idx) 3 pc') (w : (Cond.fieldLink own idx R0 n d).before a0 Z = true) (via : Via Z R0 O n d) (F : FldAt Z H a O n d v) (hr : Wp b l Z own nm bytes maxL ret R H k j pc' Ls (v :: st) Q) : Wp b l Z own nm bytes maxL ret R H k j pc Ls (.ref a :: st) Q := by
  obtain ⟨hd, rfl⟩ := hd
  refine Wp.stepH fun p e s m args below meth c T L hx hZ hby hml hown hnm hret X N hH => ?_
  obtain ⟨T', X', e', stp⟩ := getF X hx hZ hown (host := "") (Or.inl w) via rfl (F _ hH) (g := mkF m pc Ls (.ref a :: st)) rfl rfl (hb hby hd)
  exact ⟨T', L, k, j, H, _, Ls, v :: st, X', by rw [e']; exact Nat.le_refl _, N, by rw [e']; exact hH, hr, stp⟩
theorem wp_getstatic {O n d : String} {v : Value} {idx : Nat} (hd : Dc bytes pc (.getstatic idx) 3 pc') (w : (Cond.fieldLink own idx O n d).before a0 Z = true) (F : Sta Z Z.heap O n d v) (hr : Wp b l Z own nm bytes maxL ret R H k j pc' Ls (v :: st) Q) : Wp b l Z own nm bytes maxL ret R H k j pc Ls st Q := by
  obtain ⟨hd, rfl⟩ := hd
  refine Wp.stepH fun p e s m args below meth c T L hx hZ hby hml hown hnm hret X N hH => ?_
  obtain ⟨T', X', e', stp⟩ := getS (host := "") X hx hZ hown w Via.refl rfl (F.ext hH.1) (g := mkF m pc Ls st) rfl (hb hby hd)
  exact ⟨T', L, k, j, H, _, Ls, v :: st, X', by rw [e']; exact Nat.le_refl _, N, by rw [e']; exact hH, hr, stp⟩
theorem Sat.put {h h' : Heap} {a : Addr} {C O n d : String} {sg : OSig} {vs : List Value} {fi : Nat} {v : Value} (S : Sat Z h a (.inl (C, sg, vs))) (hf : sg[fi]? = some (O, n, d)) (W : Wr h h' a (Jvm.RoadKit.slotOf Z O n d) v) : Sat Z h' a (.inl (C, sg, vs.set fi v)) := by
  obtain ⟨S1, S2, S3⟩ := S
  refine ⟨S1.wr W, S2, fun i f u q r => ?_⟩
  rw [List.getElem?_set] at r
  split at r
  · rename_i e; subst e
    split at r
    · rename_i hlt
      cases r
      cases hf.symm.trans q
      exact (S3 fi _ _ hf (List.getElem?_eq_getElem hlt)).same W
    · cases r
  · rename_i ne
    refine (S3 i f u q r).other W (Or.inr ?_)
    have hP := List.pairwise_iff_getElem.mp S2
    obtain ⟨h1, e1⟩ := List.getElem?_eq_some_iff.mp q
    obtain ⟨h2, e2⟩ := List.getElem?_eq_some_iff.mp hf
    rcases Nat.lt_or_gt_of_ne ne with u | u
    · have := hP fi i h2 h1 u; rw [e1, e2] at this; exact Ne.symm this
    · have := hP i fi h1 h2 u; rw [e1, e2] at this; exact this
theorem wp_putfield {i fi kk : Nat} {a : Addr} {C O n d : String} {sg : OSig} {vs : List Value} {v old : Value} {ty : FieldType} {idx : Nat} (hd : Dc bytes pc (.putfield idx) 3 pc') (w : (Cond.fieldLink own idx O n d).before a0 Z = true) (hi : H[i]? = some (a, oI C sg vs)) (hf : sg[fi]? = some (O, n, d)) (ho : vs[fi]? = some old) (L0 : (Cond.lays C O n d).before a0 Z = true ∨ ((Cond.laysFinal C O n d).before a0 Z = true ∧ own = O ∧ nm = "<init>")) (wi : (Cond.instantiable C kk).before a0 Z = true) (hty : parseFieldDescriptor d = some ty) (hn : narrow ty v = v) (hfit : fits ty v = true) (hr : Wp b l Z own nm bytes maxL ret R (H.set i (a, oI C sg (vs.set fi v))) k j pc' Ls st Q) : Wp b l Z own nm bytes maxL ret R H k j pc Ls (v :: .ref a :: st) Q := by
  obtain ⟨hd, rfl⟩ := hd
  refine Wp.stepH fun p e s m args below meth c T L hx hZ hby hml hown hnm hret X N hH => ?_
  have S := (hH.at hi).2
  obtain ⟨T', h', X', e', W', stp⟩ := putF X hx hZ hown (host := "") (Or.inl w) Via.refl rfl (S.2.2 fi _ _ hf ho) S.1 (L0.imp id fun q => ⟨q.1, q.2.1, hnm.trans q.2.2⟩) wi hty hn hfit (g := mkF m pc Ls (v :: .ref a :: st)) rfl rfl (hb hby hd)
  subst e'
  exact ⟨T', _, k, j, _, _, Ls, st, X', by rw [W'.size]; exact Nat.le_refl _, Fr.snoc X' N ((hH.at hi).1 rfl), hH.set hi W' (S.put hf W'), hr, stp⟩
def Dfl : OSig → List Value → Prop
  | [], [] => True
  | f :: sg, v :: vs => (∃ ty, parseFieldDescriptor f.2.2 = some ty ∧ defaultValue ty = v) ∧ Dfl sg vs
  | _, _ => False
theorem Dfl.at : ∀ {sg : OSig} {vs : List Value}, Dfl sg vs → ∀ (i : Nat) (f : String × String × String) (v : Value), sg[i]? = some f → vs[i]? = some v → ∃ ty, parseFieldDescriptor f.2.2 = some ty ∧ defaultValue ty = v
  | [], [], _, i, f, v, q, _ => by simp at q
  | f :: sg, v :: vs, D, 0, f', v', q, r => by simp at q r; subst q r; exact D.1
  | f :: sg, v :: vs, D, i + 1, f', v', q, r => D.2.at i f' v' (by simpa using q) (by simpa using r)
  | [], _ :: _, D, _, _, _, _, _ => D.elim
  | _ :: _, [], D, _, _, _, _, _ => D.elim
theorem Dfl.parse : ∀ {sg : OSig} {vs : List Value}, Dfl sg vs → ∀ f ∈ sg, ∃ ty, parseFieldDescriptor f.2.2 = some ty
  | [], [], _, f, q => by simp at q
  | g :: sg, v :: vs, D, f, q => (List.mem_cons.mp q).elim (fun e => by subst e; exact ⟨D.1.choose, D.1.choose_spec.1⟩) (D.2.parse f)
  | [], _ :: _, D, _, _ => D.elim
  | _ :: _, [], D, _, _ => D.elim
theorem slo_of {C : String} {sg : OSig} {vs : List Value} (D : Dfl sg vs) (hL : ∀ f ∈ sg, Laid Z a0 C f.1 f.2.1 f.2.2) (hn : (sg.map fun f => f.2.1).Nodup) : Slo Z sg := by
  have h1 : sg.Pairwise fun f g => f.2.1 ≠ g.2.1 := List.pairwise_map.mp hn
  refine List.Pairwise.imp_of_mem (fun {f g} hf hg ne => ?_) h1
  obtain ⟨t, ht⟩ := D.parse f hf
  obtain ⟨t', ht'⟩ := D.parse g hg
  exact slot_ne (hL f hf) (hL g hg) ne ht ht'
theorem all_nil {α : Type} {P : α → Prop} : ∀ x ∈ ([] : List α), P x := fun _ q => nomatch q
theorem all_cons {α : Type} {P : α → Prop} {y : α} {L : List α} (q : P y) (r : ∀ x ∈ L, P x) : ∀ x ∈ y :: L, P x := fun x z => (List.mem_cons.mp z).elim (fun u => u ▸ q) (r x)
theorem wp_new {C : String} {idx n : Nat} (sg : OSig) (vs : List Value) (hd : Dc bytes pc (.new idx) 3 pc') (w : (Cond.classLink own idx C).before a0 Z = true) (wi : (Cond.instantiable C n).before a0 Z = true) (wz : (Cond.initialized C).before a0 Z = true) (hL : ∀ f ∈ sg, Laid Z a0 C f.1 f.2.1 f.2.2) (hn : (sg.map fun f => f.2.1).Nodup) (D : Dfl sg vs) (hc : k + 1 ≤ R.cells) (hl : j + n ≤ R.slots) (hr : ∀ a, Wp b l Z own nm bytes maxL ret R ((a, oI C sg vs) :: H) (k + 1) (j + n) pc' Ls (.ref a :: st) Q) : Wp b l Z own nm bytes maxL ret R H k j pc Ls st Q := by
  obtain ⟨hd, rfl⟩ := hd
  refine Wp.stepH fun p e s m args below meth c T L hx hZ hby hml hown hnm hret X N hH => ?_
  obtain ⟨T', h', X', e', E', A', D', -, stp⟩ := newO X hx hZ hown w wi wz rfl (g := mkF m pc Ls st) rfl (hb hby hd) hc hl
  subst e'
  refine ⟨T', L, _, _, _, _, Ls, _, X', E'.1, N, hH.cons E' (o := .inl (C, sg, vs)) ⟨A', slo_of D hL hn, fun i f v q r => ?_⟩, hr _, stp⟩
  obtain ⟨ty, t1, t2⟩ := D.at i f v q r
  rw [← t2]
  exact D' (hL f (List.mem_of_getElem? q)) t1
theorem wp_initO {a : Addr} {idx : Nat} (hd : Dc bytes pc (.invokespecial idx) 3 pc') (w1 : (Cond.methodLink own idx Lib.objectInit).before a0 Z = true) (w2 : (Cond.instanceMethod Lib.objectInit).before a0 Z = true) (w3 : (Cond.code Lib.objectInit ⟨#[0xb1]⟩ 1 none).before a0 Z = true) (hsz : Ls.size = maxL) (hf : 1 ≤ R.frames) (hl : (st.map fun v => v.category).sum + 12 ≤ R.locals) (hr : Wp b l Z own nm bytes maxL ret R H k j pc' Ls st Q) : Wp b l Z own nm bytes maxL ret R H k j pc Ls (.ref a :: st) Q := by
  obtain ⟨hd, rfl⟩ := hd
  refine Wp.stepH fun p e s m args below meth c T L hx hZ hby hml hown hnm hret X N hH => ?_
  obtain ⟨T', X', e', stp⟩ := initO X hx hZ hown w1 w2 w3 rfl (g := mkF m pc Ls (.ref a :: st)) rfl (by rw [hml]; exact hsz) rfl (hb hby hd) hf (W := (st.map fun v => v.category).sum) (by show 2 * 0 + _ ≤ _; omega) hl
  exact ⟨T', L, k, j, H, _, Ls, st, X', by rw [e']; exact Nat.le_refl _, N, by rw [e']; exact hH, hr, stp⟩
theorem wp_newarrayI {aty : ArrayType} {ty : FieldType} {n : Int32} (cnt cap : Nat) (hd : Dc bytes pc (.newarray aty) 2 pc') (hty : newarray.typeOf aty = ty) (hdef : defaultValue ty = .int 0) (hfz : fits ty (.int 0) = true) (w : (Cond.arrayClass ty).before a0 Z = true) (hn : ¬ n < 0) (hcnt : n.toNatClampNeg = cnt) (hcap : cnt ≤ cap) (hb8 : cap * 8 ≤ 536870912) (hc : k + 1 ≤ R.cells) (hl : j + cap ≤ R.slots) (hr : ∀ a, Wp b l Z own nm bytes maxL ret R ((a, oA ty (List.replicate cnt 0)) :: H) (k + 1) (j + cap) pc' Ls (.ref a :: st) Q) : Wp b l Z own nm bytes maxL ret R H k j pc Ls (.int n :: st) Q := by
  obtain ⟨hd, rfl⟩ := hd
  subst hty
  refine Wp.stepH fun p e s m args below meth c T L hx hZ hby hml hown hnm hret X N hH => ?_
  obtain ⟨T', h', cA, X', e', E', A', B', stp⟩ := newPE X hx hZ w rfl (g := mkF m pc Ls (.int n :: st)) rfl (hb hby hd) rfl hn (cap := cap) (by rw [hcnt]; exact hcap) hb8 hc hl rfl
  subst e'
  refine ⟨T', L, _, _, _, _, Ls, _, X', E'.1, N, hH.cons E' (o := .inr (.inl (_, List.replicate cnt 0))) ⟨Or.inr B', _, A', ?_, fun x hx => ?_⟩, hr _, stp⟩
  · simp [newA, hcnt, hdef]
  · rw [(List.mem_replicate.mp hx).2]; exact hfz
set_option maxHeartbeats 1000000 in
theorem wp_newarrayJ {n : Int32} (cnt cap : Nat) (hd : Dc bytes pc (.newarray .long) 2 pc') (w : (Cond.arrayClass .long).before a0 Z = true) (hn : ¬ n < 0) (hcnt : n.toNatClampNeg = cnt) (hcap : cnt ≤ cap) (hb8 : cap * 8 ≤ 536870912) (hc : k + 1 ≤ R.cells) (hl : j + cap ≤ R.slots) (hr : ∀ a, Wp b l Z own nm bytes maxL ret R ((a, oJ (List.replicate cnt 0)) :: H) (k + 1) (j + cap) pc' Ls (.ref a :: st) Q) : Wp b l Z own nm bytes maxL ret R H k j pc Ls (.int n :: st) Q := by
  obtain ⟨hd, rfl⟩ := hd
  refine Wp.stepH fun p e s m args below meth c T L hx hZ hby hml hown hnm hret X N hH => ?_
  obtain ⟨T', h', cA, X', e', E', A', B', stp⟩ := newPE (aty := .long) (ad := "[J") X hx hZ w rfl (g := mkF m pc Ls (.int n :: st)) rfl (hb hby hd) rfl hn (cap := cap) (by rw [hcnt]; exact hcap) hb8 hc hl rfl
  subst e'
  refine ⟨T', L, _, _, _, _, Ls, _, X', E'.1, N, hH.cons E' (o := .inr (.inr (.inl (List.replicate cnt 0)))) ⟨B', _, A', ?_⟩, hr _, stp⟩
  simp [newA, hcnt, defaultValue, newarray.typeOf]
theorem in_of {j : Int32} {xs : List Value} {c : Cell} {v : Value} (hs : c.slots = xs.toArray) (hj : ¬ j < 0) (hv : xs[j.toNatClampNeg]? = some v) : ¬ (j < 0 ∨ c.slots.size ≤ j.toNatClampNeg) ∧ c.slots[j.toNatClampNeg]? = some v := by
  have h1 := (List.getElem?_eq_some_iff.mp hv).1
  refine ⟨fun q => q.elim hj fun r => ?_, by rw [hs]; simpa using hv⟩
  rw [hs] at r; simp at r; omega
theorem setSlot_list {c : Cell} {xs : List Value} {n : Nat} {v : Value} (hs : c.slots = xs.toArray) : (c.setSlot n v).slots = (xs.set n v).toArray := by simp [Cell.setSlot, hs]
theorem wp_iaload {i : Nat} {a : Addr} {fl : Bool} {xs : List Int32} {n x : Int32} (m : Nat) (hd : Dc bytes pc .iaload 1 pc') (hi : H[i]? = some (a, (fl, .inr (.inl (.int, xs))))) (hn : ¬ n < 0) (hm : n.toNatClampNeg = m) (hv : xs[m]? = some x) (hr : Wp b l Z own nm bytes maxL ret R H k j pc' Ls (.int x :: st) Q) : Wp b l Z own nm bytes maxL ret R H k j pc Ls (.int n :: .ref a :: st) Q := by
  obtain ⟨hd, rfl⟩ := hd
  refine Wp.step (fun p e s m args below meth c T L hx hZ hby hown X hH target h => ?_) hr
  obtain ⟨-, cl, A, hs, -⟩ := (hH.at hi).2
  obtain ⟨h1, h2⟩ := in_of hs hn (v := .int x) (by rw [hm]; simpa using hv)
  exact X.iaload hx A.1 (State.isArrayOf_alike hZ.alike A.2.1) A.2.2 h1 h2 (g := mkF m pc Ls (.int n :: .ref a :: st)) rfl rfl (hb hby hd) _ h
theorem wp_caload {i : Nat} {a : Addr} {fl : Bool} {xs : List Int32} {n x : Int32} (m : Nat) (hd : Dc bytes pc .caload 1 pc') (hi : H[i]? = some (a, (fl, .inr (.inl (.char, xs))))) (hn : ¬ n < 0) (hm : n.toNatClampNeg = m) (hv : xs[m]? = some x) (hr : Wp b l Z own nm bytes maxL ret R H k j pc' Ls (.int x :: st) Q) : Wp b l Z own nm bytes maxL ret R H k j pc Ls (.int n :: .ref a :: st) Q := by
  obtain ⟨hd, rfl⟩ := hd
  refine Wp.step (fun p e s m args below meth c T L hx hZ hby hown X hH target h => ?_) hr
  obtain ⟨-, cl, A, hs, -⟩ := (hH.at hi).2
  obtain ⟨h1, h2⟩ := in_of hs hn (v := .int x) (by rw [hm]; simpa using hv)
  exact X.caload hx A.1 (State.isArrayOf_alike hZ.alike A.2.1) A.2.2 h1 h2 (g := mkF m pc Ls (.int n :: .ref a :: st)) rfl rfl (hb hby hd) _ h
theorem wp_saload {i : Nat} {a : Addr} {fl : Bool} {xs : List Int32} {n x : Int32} (m : Nat) (hd : Dc bytes pc .saload 1 pc') (hi : H[i]? = some (a, (fl, .inr (.inl (.short, xs))))) (hn : ¬ n < 0) (hm : n.toNatClampNeg = m) (hv : xs[m]? = some x) (hr : Wp b l Z own nm bytes maxL ret R H k j pc' Ls (.int x :: st) Q) : Wp b l Z own nm bytes maxL ret R H k j pc Ls (.int n :: .ref a :: st) Q := by
  obtain ⟨hd, rfl⟩ := hd
  refine Wp.step (fun p e s m args below meth c T L hx hZ hby hown X hH target h => ?_) hr
  obtain ⟨-, cl, A, hs, -⟩ := (hH.at hi).2
  obtain ⟨h1, h2⟩ := in_of hs hn (v := .int x) (by rw [hm]; simpa using hv)
  exact X.saload hx A.1 (State.isArrayOf_alike hZ.alike A.2.1) A.2.2 h1 h2 (g := mkF m pc Ls (.int n :: .ref a :: st)) rfl rfl (hb hby hd) _ h
theorem wp_baload {i : Nat} {a : Addr} {fl : Bool} {xs : List Int32} {n x : Int32} (m : Nat) (hd : Dc bytes pc .baload 1 pc') (hi : H[i]? = some (a, (fl, .inr (.inl (.byte, xs))))) (hn : ¬ n < 0) (hm : n.toNatClampNeg = m) (hv : xs[m]? = some x) (hr : Wp b l Z own nm bytes maxL ret R H k j pc' Ls (.int x :: st) Q) : Wp b l Z own nm bytes maxL ret R H k j pc Ls (.int n :: .ref a :: st) Q := by
  obtain ⟨hd, rfl⟩ := hd
  refine Wp.step (fun p e s m args below meth c T L hx hZ hby hown X hH target h => ?_) hr
  obtain ⟨-, cl, A, hs, -⟩ := (hH.at hi).2
  obtain ⟨h1, h2⟩ := in_of hs hn (v := .int x) (by rw [hm]; simpa using hv)
  exact X.baloadBytes hx A.1 (State.isArrayOf_alike hZ.alike A.2.1) A.2.2 h1 h2 (g := mkF m pc Ls (.int n :: .ref a :: st)) rfl rfl (hb hby hd) _ h
theorem wp_zaload {i : Nat} {a : Addr} {fl : Bool} {xs : List Int32} {n x : Int32} (m : Nat) (hd : Dc bytes pc .baload 1 pc') (hi : H[i]? = some (a, (fl, .inr (.inl (.boolean, xs))))) (hn : ¬ n < 0) (hm : n.toNatClampNeg = m) (hv : xs[m]? = some x) (hr : Wp b l Z own nm bytes maxL ret R H k j pc' Ls (.int x :: st) Q) : Wp b l Z own nm bytes maxL ret R H k j pc Ls (.int n :: .ref a :: st) Q := by
  obtain ⟨hd, rfl⟩ := hd
  refine Wp.step (fun p e s m args below meth c T L hx hZ hby hown X hH target h => ?_) hr
  obtain ⟨-, cl, A, hs, -⟩ := (hH.at hi).2
  obtain ⟨h1, h2⟩ := in_of hs hn (v := .int x) (by rw [hm]; simpa using hv)
  exact X.baloadBooleans hx A.1 (State.isArrayOf_alike hZ.alike A.2.1) A.2.2 h1 h2 (g := mkF m pc Ls (.int n :: .ref a :: st)) rfl rfl (hb hby hd) _ h
theorem wp_laload {i : Nat} {a : Addr} {xs : List Int64} {n : Int32} {x : Int64} (m : Nat) (hd : Dc bytes pc .laload 1 pc') (hi : H[i]? = some (a, oJ xs)) (hn : ¬ n < 0) (hm : n.toNatClampNeg = m) (hv : xs[m]? = some x) (hr : Wp b l Z own nm bytes maxL ret R H k j pc' Ls (.long x :: st) Q) : Wp b l Z own nm bytes maxL ret R H k j pc Ls (.int n :: .ref a :: st) Q := by
  obtain ⟨hd, rfl⟩ := hd
  refine Wp.step (fun p e s m args below meth c T L hx hZ hby hown X hH target h => ?_) hr
  obtain ⟨Eq, cl, A, hs⟩ := (hH.at hi).2
  obtain ⟨h1, h2⟩ := in_of hs hn (v := .long x) (by rw [hm]; simpa using hv)
  exact X.laload hx A.1 (State.isArrayOf_alike hZ.alike A.2.1) A.2.2 h1 h2 (g := mkF m pc Ls (.int n :: .ref a :: st)) rfl rfl (hb hby hd) _ h
theorem wp_aaload {i : Nat} {a : Addr} {C : String} {ty : FieldType} {xs : List Value} {n : Int32} {x : Value} (m : Nat) (hd : Dc bytes pc .aaload 1 pc') (hi : H[i]? = some (a, oR C ty xs)) (hty : ty.isReference = true) (hn : ¬ n < 0) (hm : n.toNatClampNeg = m) (hv : xs[m]? = some x) (hr : Wp b l Z own nm bytes maxL ret R H k j pc' Ls (x :: st) Q) : Wp b l Z own nm bytes maxL ret R H k j pc Ls (.int n :: .ref a :: st) Q := by
  obtain ⟨hd, rfl⟩ := hd
  refine Wp.step (fun p e s m args below meth c T L hx hZ hby hown X hH target h => ?_) hr
  obtain ⟨-, cl, A, -, hs, -⟩ := (hH.at hi).2
  obtain ⟨h1, h2⟩ := in_of hs hn (hm.symm ▸ hv)
  exact X.aaload hx A.1 (State.isArrayOf_alike hZ.alike A.2.1) hty A.2.2 h1 h2 (g := mkF m pc Ls (.int n :: .ref a :: st)) rfl rfl (hb hby hd) _ h
theorem wp_lengthI {i : Nat} {a : Addr} {fl : Bool} {ty : FieldType} {xs : List Int32} (n : Int32) (hd : Dc bytes pc .arraylength 1 pc') (hi : H[i]? = some (a, (fl, .inr (.inl (ty, xs))))) (hn : xs.length.toInt32 = n) (hr : Wp b l Z own nm bytes maxL ret R H k j pc' Ls (.int n :: st) Q) : Wp b l Z own nm bytes maxL ret R H k j pc Ls (.ref a :: st) Q := by
  obtain ⟨hd, rfl⟩ := hd
  refine Wp.step (fun p e s m args below meth c T L hx hZ hby hown X hH target h => ?_) hr
  obtain ⟨-, cl, A, hs, -⟩ := (hH.at hi).2
  refine X.arraylength hx A.1 (State.isArrayOf_alike hZ.alike A.2.1) (g := mkF m pc Ls (.ref a :: st)) rfl rfl (hb hby hd) _ ?_
  have e1 : cl.slots.size.toInt32 = n := by rw [hs]; simpa using hn
  rw [e1]; exact h
theorem wp_lengthJ {i : Nat} {a : Addr} {xs : List Int64} (n : Int32) (hd : Dc bytes pc .arraylength 1 pc') (hi : H[i]? = some (a, oJ xs)) (hn : xs.length.toInt32 = n) (hr : Wp b l Z own nm bytes maxL ret R H k j pc' Ls (.int n :: st) Q) : Wp b l Z own nm bytes maxL ret R H k j pc Ls (.ref a :: st) Q := by
  obtain ⟨hd, rfl⟩ := hd
  refine Wp.step (fun p e s m args below meth c T L hx hZ hby hown X hH target h => ?_) hr
  obtain ⟨-, cl, A, hs⟩ := (hH.at hi).2
  refine X.arraylength hx A.1 (State.isArrayOf_alike hZ.alike A.2.1) (g := mkF m pc Ls (.ref a :: st)) rfl rfl (hb hby hd) _ ?_
  have e1 : cl.slots.size.toInt32 = n := by rw [hs]; simpa using hn
  rw [e1]; exact h
theorem wp_lengthR {i : Nat} {a : Addr} {C : String} {ty : FieldType} {xs : List Value} (n : Int32) (hd : Dc bytes pc .arraylength 1 pc') (hi : H[i]? = some (a, oR C ty xs)) (hn : xs.length.toInt32 = n) (hr : Wp b l Z own nm bytes maxL ret R H k j pc' Ls (.int n :: st) Q) : Wp b l Z own nm bytes maxL ret R H k j pc Ls (.ref a :: st) Q := by
  obtain ⟨hd, rfl⟩ := hd
  refine Wp.step (fun p e s m args below meth c T L hx hZ hby hown X hH target h => ?_) hr
  obtain ⟨-, cl, A, -, hs, -⟩ := (hH.at hi).2
  refine X.arraylength hx A.1 (State.isArrayOf_alike hZ.alike A.2.1) (g := mkF m pc Ls (.ref a :: st)) rfl rfl (hb hby hd) _ ?_
  have e1 : cl.slots.size.toInt32 = n := by rw [hs]; simpa using hn
  rw [e1]; exact h
theorem wp_iastore {i : Nat} {a : Addr} {xs : List Int32} {n x : Int32} (m : Nat) (hd : Dc bytes pc .iastore 1 pc') (hi : H[i]? = some (a, oA .int xs)) (hn : ¬ n < 0) (hm : n.toNatClampNeg = m) (hin : m < xs.length) (hr : Wp b l Z own nm bytes maxL ret R (H.set i (a, oA .int (xs.set m x))) k j pc' Ls st Q) : Wp b l Z own nm bytes maxL ret R H k j pc Ls (.int x :: .int n :: .ref a :: st) Q := by
  obtain ⟨hd, rfl⟩ := hd
  refine Wp.stepH fun p e s mm args below meth c T L hx hZ hby hml hown hnm hret X N hH => ?_
  subst hm
  obtain ⟨Eq, cl, A, hs, G⟩ := (hH.at hi).2
  obtain ⟨h1, -⟩ := in_of hs hn (v := .int xs[n.toNatClampNeg]) (by simp [hin])
  obtain ⟨T', h', X', e', W', stp⟩ := stI X hx hZ rfl A h1 (g := mkF mm pc Ls (.int x :: .int n :: .ref a :: st)) rfl rfl (hb hby hd)
  subst e'
  exact ⟨T', _, k, j, _, _, Ls, st, X', by rw [W'.size]; exact Nat.le_refl _, Fr.snoc X' N ((hH.at hi).1 rfl), hH.set hi W' (o' := .inr (.inl (_, xs.set n.toNatClampNeg _))) ⟨Eq.imp id (·.wr W'), _, A.same W', by rw [setSlot_list hs, List.map_set], fun y hy => (List.mem_or_eq_of_mem_set hy).elim (G y) fun q => by rw [q]; exact rfl⟩, hr, stp⟩
theorem wp_castore {i : Nat} {a : Addr} {xs : List Int32} {n x : Int32} (m : Nat) (hd : Dc bytes pc .castore 1 pc') (hi : H[i]? = some (a, oA .char xs)) (hn : ¬ n < 0) (hm : n.toNatClampNeg = m) (hin : m < xs.length) (hr : Wp b l Z own nm bytes maxL ret R (H.set i (a, oA .char (xs.set m (nar .char x)))) k j pc' Ls st Q) : Wp b l Z own nm bytes maxL ret R H k j pc Ls (.int x :: .int n :: .ref a :: st) Q := by
  obtain ⟨hd, rfl⟩ := hd
  refine Wp.stepH fun p e s mm args below meth c T L hx hZ hby hml hown hnm hret X N hH => ?_
  subst hm
  obtain ⟨Eq, cl, A, hs, G⟩ := (hH.at hi).2
  obtain ⟨h1, -⟩ := in_of hs hn (v := .int xs[n.toNatClampNeg]) (by simp [hin])
  obtain ⟨T', h', X', e', W', stp⟩ := stC X hx hZ rfl A h1 (g := mkF mm pc Ls (.int x :: .int n :: .ref a :: st)) rfl rfl (hb hby hd)
  subst e'
  exact ⟨T', _, k, j, _, _, Ls, st, X', by rw [W'.size]; exact Nat.le_refl _, Fr.snoc X' N ((hH.at hi).1 rfl), hH.set hi W' (o' := .inr (.inl (_, xs.set n.toNatClampNeg _))) ⟨Eq.imp id (·.wr W'), _, A.same W', by rw [setSlot_list hs, List.map_set], fun y hy => (List.mem_or_eq_of_mem_set hy).elim (G y) fun q => by rw [q]; exact fits_nar_char x⟩, hr, stp⟩
theorem wp_sastore {i : Nat} {a : Addr} {xs : List Int32} {n x : Int32} (m : Nat) (hd : Dc bytes pc .sastore 1 pc') (hi : H[i]? = some (a, oA .short xs)) (hn : ¬ n < 0) (hm : n.toNatClampNeg = m) (hin : m < xs.length) (hr : Wp b l Z own nm bytes maxL ret R (H.set i (a, oA .short (xs.set m (nar .short x)))) k j pc' Ls st Q) : Wp b l Z own nm bytes maxL ret R H k j pc Ls (.int x :: .int n :: .ref a :: st) Q := by
  obtain ⟨hd, rfl⟩ := hd
  refine Wp.stepH fun p e s mm args below meth c T L hx hZ hby hml hown hnm hret X N hH => ?_
  subst hm
  obtain ⟨Eq, cl, A, hs, G⟩ := (hH.at hi).2
  obtain ⟨h1, -⟩ := in_of hs hn (v := .int xs[n.toNatClampNeg]) (by simp [hin])
  obtain ⟨T', h', X', e', W', stp⟩ := stS X hx hZ rfl A h1 (g := mkF mm pc Ls (.int x :: .int n :: .ref a :: st)) rfl rfl (hb hby hd)
  subst e'
  exact ⟨T', _, k, j, _, _, Ls, st, X', by rw [W'.size]; exact Nat.le_refl _, Fr.snoc X' N ((hH.at hi).1 rfl), hH.set hi W' (o' := .inr (.inl (_, xs.set n.toNatClampNeg _))) ⟨Eq.imp id (·.wr W'), _, A.same W', by rw [setSlot_list hs, List.map_set], fun y hy => (List.mem_or_eq_of_mem_set hy).elim (G y) fun q => by rw [q]; exact fits_nar_short x⟩, hr, stp⟩
theorem wp_bastore {i : Nat} {a : Addr} {xs : List Int32} {n x : Int32} (m : Nat) (hd : Dc bytes pc .bastore 1 pc') (hi : H[i]? = some (a, oA .byte xs)) (hn : ¬ n < 0) (hm : n.toNatClampNeg = m) (hin : m < xs.length) (hr : Wp b l Z own nm bytes maxL ret R (H.set i (a, oA .byte (xs.set m (nar .byte x)))) k j pc' Ls st Q) : Wp b l Z own nm bytes maxL ret R H k j pc Ls (.int x :: .int n :: .ref a :: st) Q := by
  obtain ⟨hd, rfl⟩ := hd
  refine Wp.stepH fun p e s mm args below meth c T L hx hZ hby hml hown hnm hret X N hH => ?_
  subst hm
  obtain ⟨Eq, cl, A, hs, G⟩ := (hH.at hi).2
  obtain ⟨h1, -⟩ := in_of hs hn (v := .int xs[n.toNatClampNeg]) (by simp [hin])
  obtain ⟨T', h', X', e', W', stp⟩ := stB X hx hZ rfl A h1 (g := mkF mm pc Ls (.int x :: .int n :: .ref a :: st)) rfl rfl (hb hby hd)
  subst e'
  exact ⟨T', _, k, j, _, _, Ls, st, X', by rw [W'.size]; exact Nat.le_refl _, Fr.snoc X' N ((hH.at hi).1 rfl), hH.set hi W' (o' := .inr (.inl (_, xs.set n.toNatClampNeg _))) ⟨Eq.imp id (·.wr W'), _, A.same W', by rw [setSlot_list hs, List.map_set], fun y hy => (List.mem_or_eq_of_mem_set hy).elim (G y) fun q => by rw [q]; exact fits_nar_byte x⟩, hr, stp⟩
theorem wp_zastore {i : Nat} {a : Addr} {xs : List Int32} {n x : Int32} (m : Nat) (hd : Dc bytes pc .bastore 1 pc') (hi : H[i]? = some (a, oA .boolean xs)) (hn : ¬ n < 0) (hm : n.toNatClampNeg = m) (hin : m < xs.length) (hr : Wp b l Z own nm bytes maxL ret R (H.set i (a, oA .boolean (xs.set m (nar .boolean x)))) k j pc' Ls st Q) : Wp b l Z own nm bytes maxL ret R H k j pc Ls (.int x :: .int n :: .ref a :: st) Q := by
  obtain ⟨hd, rfl⟩ := hd
  refine Wp.stepH fun p e s mm args below meth c T L hx hZ hby hml hown hnm hret X N hH => ?_
  subst hm
  obtain ⟨Eq, cl, A, hs, G⟩ := (hH.at hi).2
  obtain ⟨h1, -⟩ := in_of hs hn (v := .int xs[n.toNatClampNeg]) (by simp [hin])
  obtain ⟨T', h', X', e', W', stp⟩ := stZ X hx hZ rfl A h1 (g := mkF mm pc Ls (.int x :: .int n :: .ref a :: st)) rfl rfl (hb hby hd)
  subst e'
  exact ⟨T', _, k, j, _, _, Ls, st, X', by rw [W'.size]; exact Nat.le_refl _, Fr.snoc X' N ((hH.at hi).1 rfl), hH.set hi W' (o' := .inr (.inl (_, xs.set n.toNatClampNeg _))) ⟨Eq.imp id (·.wr W'), _, A.same W', by rw [setSlot_list hs, List.map_set], fun y hy => (List.mem_or_eq_of_mem_set hy).elim (G y) fun q => by rw [q]; exact fits_nar_bool x⟩, hr, stp⟩
theorem wp_lastore {i : Nat} {a : Addr} {xs : List Int64} {n : Int32} {x : Int64} (m : Nat) (hd : Dc bytes pc .lastore 1 pc') (hi : H[i]? = some (a, oJ xs)) (hn : ¬ n < 0) (hm : n.toNatClampNeg = m) (hin : m < xs.length) (hr : Wp b l Z own nm bytes maxL ret R (H.set i (a, oJ (xs.set m x))) k j pc' Ls st Q) : Wp b l Z own nm bytes maxL ret R H k j pc Ls (.long x :: .int n :: .ref a :: st) Q := by
  obtain ⟨hd, rfl⟩ := hd
  refine Wp.stepH fun p e s mm args below meth c T L hx hZ hby hml hown hnm hret X N hH => ?_
  subst hm
  obtain ⟨Eq, cl, A, hs⟩ := (hH.at hi).2
  obtain ⟨h1, -⟩ := in_of hs hn (v := .long xs[n.toNatClampNeg]) (by simp [hin])
  obtain ⟨T', h', X', e', W', stp⟩ := stJ X hx hZ rfl A h1 (g := mkF mm pc Ls (.long x :: .int n :: .ref a :: st)) rfl rfl (hb hby hd)
  subst e'
  exact ⟨T', _, k, j, _, _, Ls, st, X', by rw [W'.size]; exact Nat.le_refl _, Fr.snoc X' N ((hH.at hi).1 rfl), hH.set hi W' (o' := .inr (.inr (.inl (xs.set n.toNatClampNeg x)))) ⟨Eq.wr W', _, A.same W', by rw [setSlot_list hs, List.map_set]⟩, hr, stp⟩
/-- a body's contract: handed these arguments among these new objects it returns and Q holds -/
def Met (l : Launch) (Z : State) (y : MethodName) (bytes : ByteArray) (maxL : Nat) (ret : Option FieldType) (rm : Room) (as' : List Value) (H : OH) (Q : Option Value → OH → Prop) : Prop :=
  ∀ (ws : List Jvm.Cond) (h : Heap), Hp Z h H → MetFree l y (head1 (Jvm.Cond.code y bytes maxL ret :: ws) rm) (fun a U => a = as'.toArray ∧ Z.Warmed39 U.vm ∧ U.heap = h) (fun _ _ _ _ _ => True)
    (fun _ U o U' => ∃ v L, o = .returned v ∧ (Fr Z.heap.size L ∧ h.size ≤ U'.heap.size ∧ ∃ H', Hp Z U'.heap H' ∧ Q v H') ∧ FrameEnd U o U' L rm.cells rm.slots)
theorem Met.of_wp {y : MethodName} {rm : Room} {as' : List Value} (hx : plainFor y = true) (hef : ∀ m, entryFrame m as'.toArray maxL = mkF m 0 Ls []) (hw : Wp none l Z y.cls y.name bytes maxL ret rm H 0 0 0 Ls [] Q) : Met l Z y bytes maxL ret rm as' H Q := by
  intro ws h hH
  refine MetFree.of_bodySF hx hisR ?_
  intro p e s m args below meth c s₁ Bd hml0 hP hK
  obtain ⟨rfl, hZ, hh⟩ := hP
  have X0 : Stand p l e rm s m as'.toArray below meth c s₁ [] 0 0 := Stand.of_body Bd
  have e0 : s₁.heap = h := by rw [← hh, Bd.state]; rfl
  obtain ⟨T', v, L', k', j', vm1, k1, H', ⟨hS, hk1, hvm⟩, X', ⟨hc, hj, hsz⟩, N', hH', hv, hQ, stp⟩ := hw p e s s.vm 0 m as'.toArray below meth c s₁ [] Bd.exec hZ ((State.WarmedH.refl s).since 0) (Nat.zero_le _) Bd.bytes hml0 (findClass_of_methodNamed Bd.named) (name_of_methodNamed Bd.named Bd.method).1 Bd.returns X0 (Fr.nil _) (by rw [e0]; exact hH) (fun _ q => nomatch q)
  obtain rfl := hvm rfl
  have X'' : Stand p l e rm s m as'.toArray below meth c T' L' k' j' := X'
  obtain ⟨fs, hr, hrun, hended, hW, hsame⟩ := X''.leave (v := v) (fun h => hv (Bd.returns.symm.trans h))
  refine ⟨_, _, castTop (hef m) (stp fs hr), hrun, hended, v, L', rfl, ⟨N', ?_, H', hH', hQ⟩, ⟨_, rfl⟩, hW, hsame.mono hc hj⟩
  rw [e0] at hsz; exact hsz
/-- the same for a body that may intern (a String constant loaded cold) -/
theorem MetW.of_wp {y : MethodName} {rm : Room} {as' : List Value} (hx : plainFor y = true) (hef : ∀ m, entryFrame m as'.toArray maxL = mkF m 0 Ls []) (hw : Wp b l Z y.cls y.name bytes maxL ret rm H 0 0 0 Ls [] Q) (ws : List Jvm.Cond) (h : Heap) (hH : Hp Z h H) :
    MetFree l y (head1 (Jvm.Cond.code y bytes maxL ret :: ws) rm) (fun a U => a = as'.toArray ∧ Z.Warmed39 U.vm ∧ U.heap = h ∧ MdOk b Z U U.vm) (fun _ _ _ _ _ => True)
      (fun _ U o U' => ∃ v L, o = .returned v ∧ (Fr Z.heap.size L ∧ ∃ H', Hp Z U'.heap H' ∧ Q v H') ∧ ReturnedEndW U o U' L rm.cells rm.slots) := by
  refine MetFree.of_bodySF hx hisR ?_
  intro p e s m args below meth c s₁ Bd hml0 hP hK
  obtain ⟨rfl, hZ, hh, hB⟩ := hP
  have X0 : Stand p l e rm s m as'.toArray below meth c s₁ [] 0 0 := Stand.of_body Bd
  have e0 : s₁.heap = h := by rw [← hh, Bd.state]; rfl
  obtain ⟨T', v, L', k', j', vm1, k1, H', ⟨hS, hk1, -⟩, X', ⟨hc, hj, hsz⟩, N', hH', hv, hQ, stp⟩ := hw p e s s.vm 0 m as'.toArray below meth c s₁ [] Bd.exec hZ ((State.WarmedH.refl s).since 0) (Nat.zero_le _) Bd.bytes hml0 (findClass_of_methodNamed Bd.named) (name_of_methodNamed Bd.named Bd.method).1 Bd.returns X0 (Fr.nil _) (by rw [e0]; exact hH) hB
  obtain ⟨fs, hr, hrun, hended, q1, q2, q3, q4⟩ := X'.leaveW hS hk1 (v := v) (fun h => hv (Bd.returns.symm.trans h))
  exact ⟨_, _, castTop (hef m) (stp fs hr), hrun, hended, v, L', rfl, ⟨N', H', hH', hQ⟩, q1, q2, q3, q4.mono hc hj⟩
theorem Met.mono {y : MethodName} {rm : Room} {as' : List Value} {Q' : Option Value → OH → Prop} (M : Met l Z y bytes maxL ret rm as' H Q') (hq : ∀ v H', Q' v H' → Q v H') : Met l Z y bytes maxL ret rm as' H Q := fun ws h hH p e ha hc hk s m args below hf happ hP hK => by
  obtain ⟨n, o, h1, h2, h3, v, L, rfl, ⟨q1, q2, H', q3, q4⟩, h5⟩ := M ws h hH p e ha hc hk s m args below hf happ hP hK
  exact ⟨n, _, h1, h2, h3, v, L, rfl, ⟨q1, q2, H', q3, hq _ _ q4⟩, h5⟩
theorem wp_callS {y : MethodName} {bytes' : ByteArray} {maxL' : Nat} {ret' : Option FieldType} {rm : Room} {rest : List Value} {Q' : Option Value → OH → Prop} {idx : Nat} {ps : List FieldType} {rt : Option FieldType} {as' : List Value} (M : Met l Z y bytes' maxL' ret' rm as' H Q') (hd : Dc bytes pc (.invokestatic idx) 3 pc') (w1 : (Cond.methodLink own idx y).before a0 Z = true) (w2 : (Cond.static y).before a0 Z = true) (w3 : (Cond.initialized y.cls).before a0 Z = true) (w4 : (Cond.code y bytes' maxL' ret').before a0 Z = true) (hy : y.cls ≠ "java/lang/invoke/MethodHandle" ∧ y.cls ≠ "java/lang/invoke/VarHandle") (hpd : parseMethodDescriptor y.desc = some ⟨ps, rt⟩) (hlen : as'.length = ps.length) (hst : st = as'.reverse ++ rest) (hsz : Ls.size = maxL) (hf : rm.frames + 1 ≤ R.frames) (hl : (rest.map fun v => v.category).sum + (maxL' + 11) + rm.locals ≤ R.locals) (hc : k + rm.cells ≤ R.cells) (hj : j + rm.slots ≤ R.slots) (hr : ∀ v H', Q' v H' → Wp b l Z own nm bytes maxL ret R H' (k + rm.cells) (j + rm.slots) pc' Ls (v.toList ++ rest) Q) : Wp b l Z own nm bytes maxL ret R H k j pc Ls st Q := by
  obtain ⟨hd, rfl⟩ := hd
  refine Wp.stepH fun p e s m args below meth c T L hx hZ hby hml hown hnm hret X N hH => ?_
  obtain ⟨v, _, ⟨T', L', k', n'⟩, -, X', ⟨Lc, ⟨N', hsz', H', hH', hQ⟩, l1, y1, z1⟩, stp⟩ := Jvm.LawKit.callS X hx (y := y) hown (mvT hZ w1) (mvT hZ w2) (mvT hZ w3) (mvT hZ w4) hy (backOf (W := (rest.map fun v => v.category).sum) (Q := fun v h L => Fr Z.heap.size L ∧ T.heap.size ≤ h.size ∧ ∃ H', Hp Z h H' ∧ Q' v H') (M [] T.heap hH) hZ w4 w3 hf hl) (g := mkF m pc Ls st) rfl (by rw [hml]; exact hsz) (argsL := as') (rest := rest) (lenOf hpd hlen) hst (by show 2 * 0 + _ ≤ _; omega) (hb hby hd) (fun _ _ => ⟨rfl, rfl, hc, hj⟩)
  dsimp only [Pt.U, Pt.locs, Pt.cells, Pt.slots] at X' l1 y1 z1 stp hH' hsz'
  subst l1 y1 z1
  exact ⟨T', _, _, _, H', _, Ls, v.toList ++ rest, X', hsz', N.app N', hH', hr v H' hQ, stp⟩
theorem wp_init {y : MethodName} {bytes' : ByteArray} {maxL' : Nat} {rm : Room} {rest : List Value} {Q' : Option Value → OH → Prop} {idx : Nat} {ps : List FieldType} {rt : Option FieldType} {a : Addr} {as' : List Value} (M : Met l Z y bytes' maxL' none rm (.ref a :: as') H Q') (hd : Dc bytes pc (.invokespecial idx) 3 pc') (hin : y.name = "<init>") (w1 : (Cond.methodLink own idx y).before a0 Z = true) (w2 : (Cond.instanceMethod y).before a0 Z = true) (w3 : (Cond.initialized y.cls).before a0 Z = true) (w4 : (Cond.code y bytes' maxL' none).before a0 Z = true) (hy : y.cls ≠ "java/lang/invoke/MethodHandle" ∧ y.cls ≠ "java/lang/invoke/VarHandle") (hpd : parseMethodDescriptor y.desc = some ⟨ps, rt⟩) (hlen : as'.length = ps.length) (hst : st = as'.reverse ++ .ref a :: rest) (hsz : Ls.size = maxL) (hf : rm.frames + 1 ≤ R.frames) (hl : (rest.map fun v => v.category).sum + (maxL' + 11) + rm.locals ≤ R.locals) (hc : k + rm.cells ≤ R.cells) (hj : j + rm.slots ≤ R.slots) (hr : ∀ v H', Q' v H' → Wp b l Z own nm bytes maxL ret R H' (k + rm.cells) (j + rm.slots) pc' Ls (v.toList ++ rest) Q) : Wp b l Z own nm bytes maxL ret R H k j pc Ls st Q := by
  obtain ⟨hd, rfl⟩ := hd
  refine Wp.stepH fun p e s m args below meth c T L hx hZ hby hml hown hnm hret X N hH => ?_
  obtain ⟨v, _, ⟨T', L', k', n'⟩, -, X', ⟨Lc, ⟨N', hsz', H', hH', hQ⟩, l1, y1, z1⟩, stp⟩ := X.specialBack hx (y := y) hin hown (mvT hZ w1) (mvT hZ w2) (mvT hZ w4) hy (backOf (W := (rest.map fun v => v.category).sum) (Q := fun v h L => Fr Z.heap.size L ∧ T.heap.size ≤ h.size ∧ ∃ H', Hp Z h H' ∧ Q' v H') (M [] T.heap hH) hZ w4 w3 hf hl) (g := mkF m pc Ls st) rfl (by rw [hml]; exact hsz) (Steps.refl _) (a := a) (argsL := as') (rest := rest) (lenOf hpd hlen) hst (by show 2 * 0 + _ ≤ _; omega) (hb hby hd) (fun _ _ => ⟨rfl, rfl, hc, hj⟩)
  dsimp only [Pt.U, Pt.locs, Pt.cells, Pt.slots] at X' l1 y1 z1 stp hH' hsz'
  subst l1 y1 z1
  exact ⟨T', _, _, _, H', _, Ls, v.toList ++ rest, X', hsz', N.app N', hH', hr v H' hQ, fun _ q => stp.trans q⟩
theorem wp_virtual {y : MethodName} {bytes' : ByteArray} {maxL' : Nat} {ret' : Option FieldType} {rm : Room} {rest : List Value} {Q' : Option Value → OH → Prop} {idx : Nat} {ps : List FieldType} {rt : Option FieldType} {x : MethodName} {C : String} {a : Addr} {as' : List Value} (M : Met l Z y bytes' maxL' ret' rm (.ref a :: as') H Q') (E : ExaAt Z H a C) (hd : Dc bytes pc (.invokevirtual idx) 3 pc') (w1 : (Cond.methodLink own idx x).before a0 Z = true) (w2 : (Cond.declares x).before a0 Z = true) (wn : (Cond.selects x.cls x x).before a0 Z = true) (ws : (Cond.selects C x y).before a0 Z = true) (wi : (Cond.instanceMethod y).before a0 Z = true) (w3 : (Cond.initialized y.cls).before a0 Z = true) (w4 : (Cond.code y bytes' maxL' ret').before a0 Z = true) (hy : x.cls ≠ "java/lang/invoke/MethodHandle" ∧ x.cls ≠ "java/lang/invoke/VarHandle") (hpd : parseMethodDescriptor x.desc = some ⟨ps, rt⟩) (hlen : as'.length = ps.length) (hst : st = as'.reverse ++ .ref a :: rest) (hsz : Ls.size = maxL) (hf : rm.frames + 1 ≤ R.frames) (hl : (rest.map fun v => v.category).sum + (maxL' + 11) + rm.locals ≤ R.locals) (hc : k + rm.cells ≤ R.cells) (hj : j + rm.slots ≤ R.slots) (hr : ∀ v H', Q' v H' → Wp b l Z own nm bytes maxL ret R H' (k + rm.cells) (j + rm.slots) pc' Ls (v.toList ++ rest) Q) : Wp b l Z own nm bytes maxL ret R H k j pc Ls st Q := by
  obtain ⟨hd, rfl⟩ := hd
  refine Wp.stepH fun p e s m args below meth c T L hx hZ hby hml hown hnm hret X N hH => ?_
  obtain ⟨cq, kq, q1, q2, q3⟩ := isOf hZ rfl (E _ hH)
  obtain ⟨v, _, ⟨T', L', k', n'⟩, -, X', ⟨Lc, ⟨N', hsz', H', hH', hQ⟩, l1, y1, z1⟩, stp⟩ := X.virtualBack hx (y := x) (z := y) hown (mvT hZ w1) (mvT hZ w2) (notFace_of_selects (args := #[]) (mvT hZ wn)) (mvT hZ ws) (mvT hZ wi) hy (backOf (W := (rest.map fun v => v.category).sum) (Q := fun v h L => Fr Z.heap.size L ∧ T.heap.size ≤ h.size ∧ ∃ H', Hp Z h H' ∧ Q' v H') (M [] T.heap hH) hZ w4 w3 hf hl) q1 q3 (g := mkF m pc Ls st) rfl (by rw [hml]; exact hsz) (Steps.refl _) (argsL := as') (rest := rest) (lenOf hpd hlen) hst (by show 2 * 0 + _ ≤ _; omega) (hb hby hd) (fun _ _ => ⟨rfl, rfl, hc, hj⟩)
  dsimp only [Pt.U, Pt.locs, Pt.cells, Pt.slots] at X' l1 y1 z1 stp hH' hsz'
  subst l1 y1 z1
  exact ⟨T', _, _, _, H', _, Ls, v.toList ++ rest, X', hsz', N.app N', hH', hr v H' hQ, fun _ q => stp.trans q⟩
theorem xs_pop2L {tb : Tables} [Ours tb] {e : Env} {below : List Frame} {T target : State} {m : MethodId} {c : Code} {g : JFrame} (h : At T m c below) (hx : tb.exec = Jvm.exec) (hg : g.method = m) {x : Int64} {rest : List Value} (hd : decode c.code g.pc = .ok (.pop2, 1)) (hs : g.stack = .long x :: rest)
    (hr : Steps tb e below (T.setTop { g with pc := g.pc + 1, stack := rest }) target) : Steps tb e below (T.setTop g) target := by
  subst hg
  jvm_step h [h.top, hx, hd, hs, Value.category]
  exact hr
theorem xs_dup_x2 {tb : Tables} [Ours tb] {e : Env} {below : List Frame} {T target : State} {m : MethodId} {c : Code} {g : JFrame} (h : At T m c below) (hx : tb.exec = Jvm.exec) (hg : g.method = m) {x y z : Value} {rest : List Value} (hd : decode c.code g.pc = .ok (.dup_x2, 1)) (hs : g.stack = x :: y :: z :: rest) (hc1 : x.category = 1) (hc2 : y.category = 1) (hc3 : z.category = 1)
    (hr : Steps tb e below (T.setTop { g with pc := g.pc + 1, stack := x :: y :: z :: x :: rest }) target) : Steps tb e below (T.setTop g) target := by
  subst hg
  jvm_step h [h.top, hx, hd, hs, hc1, hc2, hc3]
  exact hr
theorem wp_pop2L {x : Int64} (hd : Dc bytes pc (.pop2) 1 pc')  (hr : Wp b l Z own nm bytes maxL ret R H k j pc' Ls st Q) : Wp b l Z own nm bytes maxL ret R H k j pc Ls (.long x :: st) Q := by
  obtain ⟨hd, rfl⟩ := hd
  exact Wp.step (fun p e s m args below meth c T L hx hZ hby hown X hH target ht => xs_pop2L X.here hx rfl (hb hby hd) rfl ht) hr
theorem wp_dup_x2 {x y z : Value} (hd : Dc bytes pc (.dup_x2) 1 pc') (hc1 : x.category = 1) (hc2 : y.category = 1) (hc3 : z.category = 1) (hr : Wp b l Z own nm bytes maxL ret R H k j pc' Ls (x :: y :: z :: x :: st) Q) : Wp b l Z own nm bytes maxL ret R H k j pc Ls (x :: y :: z :: st) Q := by
  obtain ⟨hd, rfl⟩ := hd
  exact Wp.step (fun p e s m args below meth c T L hx hZ hby hown X hH target ht => xs_dup_x2 X.here hx rfl (hb hby hd) rfl hc1 hc2 hc3 ht) hr
theorem wp_private {y : MethodName} {bytes' : ByteArray} {maxL' : Nat} {ret' : Option FieldType} {rm : Room} {rest : List Value} {Q' : Option Value → OH → Prop} {idx : Nat} {ps : List FieldType} {rt : Option FieldType} {a : Addr} {C : String} {kk : Nat} {as' : List Value} (M : Met l Z y bytes' maxL' ret' rm (.ref a :: as') H Q') (E : ExaAt Z H a C) (hd : Dc bytes pc (.invokevirtual idx) 3 pc') (w1 : (Cond.methodLink own idx y).before a0 Z = true) (wi : (Cond.instanceMethod y).before a0 Z = true) (wn : (Cond.instantiable y.cls kk).before a0 Z = true) (wp : (Cond.privateMethod y).before a0 Z = true) (w3 : (Cond.initialized y.cls).before a0 Z = true) (w4 : (Cond.code y bytes' maxL' ret').before a0 Z = true) (hy : y.cls ≠ "java/lang/invoke/MethodHandle" ∧ y.cls ≠ "java/lang/invoke/VarHandle") (hpd : parseMethodDescriptor y.desc = some ⟨ps, rt⟩) (hlen : as'.length = ps.length) (hst : st = as'.reverse ++ .ref a :: rest) (hsz : Ls.size = maxL) (hf : rm.frames + 1 ≤ R.frames) (hl : (rest.map fun v => v.category).sum + (maxL' + 11) + rm.locals ≤ R.locals) (hc : k + rm.cells ≤ R.cells) (hj : j + rm.slots ≤ R.slots) (hr : ∀ v H', Q' v H' → Wp b l Z own nm bytes maxL ret R H' (k + rm.cells) (j + rm.slots) pc' Ls (v.toList ++ rest) Q) : Wp b l Z own nm bytes maxL ret R H k j pc Ls st Q := by
  obtain ⟨hd, rfl⟩ := hd
  refine Wp.stepH fun p e s m args below meth c T L hx hZ hby hml hown hnm hret X N hH => ?_
  obtain ⟨cl, q1, q2⟩ := (E _ hH).cell
  obtain ⟨mk, mt, n1, n2, n3, n4⟩ := Cond.instanceMethod_spec (mvT (args := args) hZ wi)
  obtain ⟨mt', cM, n2', -, -, -, -, -, -, n5⟩ := Cond.code_spec n1 (mvT (args := args) hZ w4)
  cases n2.symm.trans n2'
  obtain ⟨c2, k2, i1, i2, -, i4, -⟩ := Cond.instantiable_spec (mvT (args := args) hZ wn)
  cases (findClass_of_methodNamed n1).symm.trans i1
  have i5 : k2.isInterface = false := by cases q : k2.isInterface with | false => rfl | true => rw [q] at i4; cases i4
  have hsel : selectMethod e.platform s.vm cl.cls mk = .method mk := selectMethod_private n2 (Cond.privateMethod_at (mvP (args := args) hZ wp) mk mt n1 n2)
  obtain ⟨vm1, X1, st1⟩ := X.invokevirtual hx hown (mvT hZ w1) n1 n2 n3 i2 i5 hy (a := a) (cell := cl) q1 q2 hsel n2 n4 i2 i5 (g := mkF m pc Ls st) rfl (argsL := as') (rest := rest) (lenOf hpd hlen _ n5) hst (hb hby hd)
  obtain ⟨v, ⟨T', L', k', n'⟩, X', ⟨Lc, ⟨N', hsz', H', hH', hQ⟩, l1, y1, z1⟩, st2⟩ := backOf (p := p) (e := e) (below := below) (args := args) (len := 3) (W := (rest.map fun v => v.category).sum) (Q := fun v h L => Fr Z.heap.size L ∧ T.heap.size ≤ h.size ∧ ∃ H', Hp Z h H' ∧ Q' v H') (M [] T.heap hH) hZ w4 w3 hf hl m meth c ⟨T.setVm vm1, L, k, j⟩ { mkF m pc Ls st with stack := rest } (.invokevirtual idx) mk (.ref a :: as').toArray X1 rfl (by show Ls.size = _; rw [hml]; exact hsz) (hb hby hd) (by show 2 * 0 + (rest.map fun v => v.category).sum ≤ _; omega) (X1.named n1) ⟨rfl, rfl, hc, hj⟩
  dsimp only [Pt.U, Pt.locs, Pt.cells, Pt.slots] at X' l1 y1 z1 st2 hH' hsz'
  subst l1 y1 z1
  exact ⟨T', _, _, _, H', _, Ls, v.toList ++ rest, X', hsz', N.app N', hH', hr v H' hQ, fun t q => st1 _ fun acts => by rw [doInvoke_state]; exact st2.trans q⟩
theorem wp_interface {y : MethodName} {bytes' : ByteArray} {maxL' : Nat} {ret' : Option FieldType} {rm : Room} {rest : List Value} {Q' : Option Value → OH → Prop} {idx : Nat} {ps : List FieldType} {rt : Option FieldType} {x : MethodName} {C : String} {cnt : Nat} {a : Addr} {as' : List Value} (M : Met l Z y bytes' maxL' ret' rm (.ref a :: as') H Q') (E : ExaAt Z H a C) (hd : Dc bytes pc (.invokeinterface idx cnt) 5 pc') (w1 : (Cond.methodLink own idx x).before a0 Z = true) (w2 : (Cond.declares x).before a0 Z = true) (wf : (Cond.interfaceMethod x.cls x.cls x.name x.desc).before a0 Z = true) (hfa : ((Cond.interfaceMethod x.cls x.cls x.name x.desc).onTables && (Cond.interfaceMethod x.cls x.cls x.name x.desc).keepsFace) = true) (ws : (Cond.selects C x y).before a0 Z = true) (wi : (Cond.instanceMethod y).before a0 Z = true) (wpu : (Cond.publicMethod y).before a0 Z = true) (wu : (Cond.unhidden C x.name x.desc).before a0 Z = true) (wc : (Cond.castable C x.cls).before a0 Z = true) (w3 : (Cond.initialized y.cls).before a0 Z = true) (w4 : (Cond.code y bytes' maxL' ret').before a0 Z = true) (hy : x.cls ≠ "java/lang/invoke/MethodHandle" ∧ x.cls ≠ "java/lang/invoke/VarHandle") (hpd : parseMethodDescriptor x.desc = some ⟨ps, rt⟩) (hlen : as'.length = ps.length) (hst : st = as'.reverse ++ .ref a :: rest) (hsz : Ls.size = maxL) (hf : rm.frames + 1 ≤ R.frames) (hl : (rest.map fun v => v.category).sum + (maxL' + 11) + rm.locals ≤ R.locals) (hc : k + rm.cells ≤ R.cells) (hj : j + rm.slots ≤ R.slots) (hr : ∀ v H', Q' v H' → Wp b l Z own nm bytes maxL ret R H' (k + rm.cells) (j + rm.slots) pc' Ls (v.toList ++ rest) Q) : Wp b l Z own nm bytes maxL ret R H k j pc Ls st Q := by
  obtain ⟨hd, rfl⟩ := hd
  refine Wp.stepH fun p e s m args below meth c T L hx hZ hby hml hown hnm hret X N hH => ?_
  obtain ⟨cq, kq, q1, q2, q3⟩ := isOf hZ rfl (E _ hH)
  obtain ⟨v, _, ⟨T', L', k', n'⟩, -, X', ⟨Lc, ⟨N', hsz', H', hH', hQ⟩, l1, y1, z1⟩, stp⟩ := X.interfaceBack hx (xi := x) (y := y) hown (mvT hZ w1) (mvT hZ w2) (mvT hZ wf hfa) (mvT hZ ws) (mvT hZ wi) (mvT hZ wpu) (mvT hZ wu) (mvT hZ wc) hy (backOf (len := 5) (W := (rest.map fun v => v.category).sum) (Q := fun v h L => Fr Z.heap.size L ∧ T.heap.size ≤ h.size ∧ ∃ H', Hp Z h H' ∧ Q' v H') (M [] T.heap hH) hZ w4 w3 hf hl) q1 q2 q3 (g := mkF m pc Ls st) rfl (by rw [hml]; exact hsz) (Steps.refl _) (argsL := as') (rest := rest) (lenOf hpd hlen) hst (by show 2 * 0 + _ ≤ _; omega) (hb hby hd) (fun _ _ => ⟨rfl, rfl, hc, hj⟩)
  dsimp only [Pt.U, Pt.locs, Pt.cells, Pt.slots] at X' l1 y1 z1 stp hH' hsz'
  subst l1 y1 z1
  exact ⟨T', _, _, _, H', _, Ls, v.toList ++ rest, X', hsz', N.app N', hH', hr v H' hQ, fun _ q => stp.trans q⟩
theorem wp_ldcS {text : String} {idx n : Nat} (hd : Dc bytes pc (.ldc idx) 2 pc') (hbt : b = some none) (w : (Cond.stringLink own idx text).before a0 Z = true) (wS : ∀ a ∈ Bundle.stringAtoms, a.before a0 Z = true) (hn : 4 * text.toList.length ≤ n) (hbig : n ≤ 536870912) (hc : k + 2 ≤ R.cells) (hl : j + (n + 4) ≤ R.slots) (hr : ∀ a, Wp b l Z own nm bytes maxL ret R H (k + 2) (j + (n + 4)) pc' Ls (.ref a :: st) Q) : Wp b l Z own nm bytes maxL ret R H k j pc Ls st Q := by
  obtain ⟨hd, rfl⟩ := hd
  intro p e s vm0 k0 m args below meth c T L hx hZ hS hk hby hml hown hnm hret X N hH hB
  obtain ⟨a, T', h', k1, X', e', E', hS', hk1, hZ', hown', stp⟩ := ldcS X hx hZ hown w wS rfl hS hk (g := mkF m pc Ls st) rfl (hb hby hd) hn hbig hc hl
  subst e'
  obtain ⟨T2, v, L2, k2, j2, vm1, k3, H2, ⟨r0, r1, r2⟩, r3, ⟨r4, r5, r6⟩, r7, r8, r9, r10, r11⟩ := hr a p e s T'.vm k1 m args below meth c T' L hx hZ' hS' hk1 hby hml hown' hnm hret X' N (hH.ext E') (fun _ q => by rw [hbt] at q; cases q)
  exact ⟨T2, v, L2, k2, j2, vm1, k3, H2, ⟨r0, r1, fun q => by rw [hbt] at q; cases q⟩, r3, ⟨r4, r5, Nat.le_trans E'.1 r6⟩, r7, r8, r9, r10, fun fs hl => stp _ (r11 fs hl)⟩
theorem wp_cast {a : Addr} {K : String} {idx : Nat} (hd : Dc bytes pc (.checkcast idx) 3 pc') (w : (Cond.classLink own idx K).before a0 Z = true) (F : ∀ h, Hp Z h H → Ins Z h a K true) (hr : Wp b l Z own nm bytes maxL ret R H k j pc' Ls (.ref a :: st) Q) : Wp b l Z own nm bytes maxL ret R H k j pc Ls (.ref a :: st) Q := by
  obtain ⟨hd, rfl⟩ := hd
  refine Wp.stepH fun p e s m args below meth c T L hx hZ hby hml hown hnm hret X N hH => ?_
  obtain ⟨T', X', e', stp⟩ := castY X hx hZ hown w rfl (F _ hH) (g := mkF m pc Ls (.ref a :: st)) rfl rfl (hb hby hd)
  exact ⟨T', L, k, j, H, _, Ls, .ref a :: st, X', by rw [e']; exact Nat.le_refl _, N, by rw [e']; exact hH, hr, stp⟩
theorem wp_instY {a : Addr} {K : String} {idx : Nat} (hd : Dc bytes pc (.instanceof idx) 3 pc') (w : (Cond.classLink own idx K).before a0 Z = true) (F : ∀ h, Hp Z h H → Ins Z h a K true) (hr : Wp b l Z own nm bytes maxL ret R H k j pc' Ls (.int 1 :: st) Q) : Wp b l Z own nm bytes maxL ret R H k j pc Ls (.ref a :: st) Q := by
  obtain ⟨hd, rfl⟩ := hd
  refine Wp.stepH fun p e s m args below meth c T L hx hZ hby hml hown hnm hret X N hH => ?_
  obtain ⟨T', X', e', stp⟩ := instY X hx hZ hown w rfl (F _ hH) (g := mkF m pc Ls (.ref a :: st)) rfl rfl (hb hby hd)
  exact ⟨T', L, k, j, H, _, Ls, .int 1 :: st, X', by rw [e']; exact Nat.le_refl _, N, by rw [e']; exact hH, hr, stp⟩
theorem wp_instN {a : Addr} {C K : String} {idx : Nat} (hd : Dc bytes pc (.instanceof idx) 3 pc') (w : (Cond.classLink own idx K).before a0 Z = true) (E : ExaAt Z H a C) (F : ∃ c t, Z.vm.findClass C = some c ∧ Z.vm.findClass K = some t ∧ Z.vm.assignable c t = false) (hr : Wp b l Z own nm bytes maxL ret R H k j pc' Ls (.int 0 :: st) Q) : Wp b l Z own nm bytes maxL ret R H k j pc Ls (.ref a :: st) Q := by
  obtain ⟨hd, rfl⟩ := hd
  refine Wp.stepH fun p e s m args below meth c T L hx hZ hby hml hown hnm hret X N hH => ?_
  obtain ⟨T', X', e', stp⟩ := instNo X hx hZ hown w rfl (E _ hH) F (g := mkF m pc Ls (.ref a :: st)) rfl rfl (hb hby hd)
  exact ⟨T', L, k, j, H, _, Ls, .int 0 :: st, X', by rw [e']; exact Nat.le_refl _, N, by rw [e']; exact hH, hr, stp⟩
theorem wp_anewarray {C : String} {idx : Nat} {n : Int32} (cnt cap : Nat) (hd : Dc bytes pc (.anewarray idx) 3 pc') (w1 : (Cond.classLink own idx C).before a0 Z = true) (w2 : (Cond.arrayOver (.object C)).before a0 Z = true) (hn : ¬ n < 0) (hcnt : n.toNatClampNeg = cnt) (hcap : cnt ≤ cap) (hb8 : cap * 8 ≤ 536870912) (hc : k + 1 ≤ R.cells) (hl : j + cap ≤ R.slots) (hr : ∀ a, Wp b l Z own nm bytes maxL ret R ((a, oR C (.object C) (List.replicate cnt .null)) :: H) (k + 1) (j + cap) pc' Ls (.ref a :: st) Q) : Wp b l Z own nm bytes maxL ret R H k j pc Ls (.int n :: st) Q := by
  obtain ⟨hd, rfl⟩ := hd
  refine Wp.stepH fun p e s m args below meth c T L hx hZ hby hml hown hnm hret X N hH => ?_
  obtain ⟨T', h', cA, X', e', E', A', B', O', stp⟩ := newRE X hx hZ hown w1 w2 rfl (g := mkF m pc Ls (.int n :: st)) rfl (hb hby hd) rfl hn (cap := cap) (by rw [hcnt]; exact hcap) hb8 hc hl rfl
  subst e'
  refine ⟨T', L, _, _, _, _, Ls, _, X', E'.1, N, hH.cons E' (o := .inr (.inr (.inr (_, _, List.replicate cnt .null)))) ⟨B', _, A', O', ?_, fun v hv => ?_⟩, hr _, stp⟩
  · simp [newA, hcnt, defaultValue]
  · rw [(List.mem_replicate.mp hv).2]; rfl
theorem Sto.ofT {h : Heap} {a y : Addr} {cl : Cell} {ty ty' : FieldType} {C : String} (A : Arr Z h a cl ty') (O : OvrT Z cl.cls C ty) (I : Ins Z h y C true) : Sto Z h a (.ref y) := by
  obtain ⟨k, comp, o1, o2, o3⟩ := O
  obtain ⟨cv, cT, i1, i2, i3⟩ := I
  cases o3.symm.trans i2
  simp only [Bool.and_eq_true, Bool.not_eq_true'] at i3
  obtain ⟨kc, q⟩ := Vm.classAt_of_findClass o3
  obtain ⟨kv, q2⟩ := Vm.classAt_of_assignable i3.2 ⟨kc, q⟩
  exact Or.inr ⟨cl, cv, k, kv, kc, _, _, y, A.1, o1, o2, q, rfl, i1, i3.1, q2, i3.2⟩
theorem wp_aastore {i : Nat} {a : Addr} {C : String} {ty : FieldType} {xs : List Value} {n : Int32} {x : Value} (m : Nat) (hd : Dc bytes pc .aastore 1 pc') (hi : H[i]? = some (a, oR C ty xs)) (hty : ty.isReference = true) (hn : ¬ n < 0) (hm : n.toNatClampNeg = m) (hin : m < xs.length) (F : x = .null ∨ ∃ y, x = .ref y ∧ ∀ h, Hp Z h H → Ins Z h y C true) (hr : Wp b l Z own nm bytes maxL ret R (H.set i (a, oR C ty (xs.set m x))) k j pc' Ls st Q) : Wp b l Z own nm bytes maxL ret R H k j pc Ls (x :: .int n :: .ref a :: st) Q := by
  obtain ⟨hd, rfl⟩ := hd
  refine Wp.stepH fun p e s mm args below meth c T L hx hZ hby hml hown hnm hret X N hH => ?_
  subst hm
  obtain ⟨Eq, cl, A, O, hs, G⟩ := (hH.at hi).2
  obtain ⟨h1, -⟩ := in_of hs hn (v := xs[n.toNatClampNeg]) (by simp [hin])
  have S : Sto Z T.heap a x := by
    rcases F with rfl | ⟨y, rfl, F⟩
    · exact Or.inl rfl
    · exact Sto.ofT A O (F _ hH)
  obtain ⟨T', h', X', e', W', stp⟩ := stR X hx hZ rfl A h1 hty S (g := mkF mm pc Ls (x :: .int n :: .ref a :: st)) rfl rfl (hb hby hd)
  subst e'
  exact ⟨T', _, k, j, _, _, Ls, st, X', by rw [W'.size]; exact Nat.le_refl _, Fr.snoc X' N ((hH.at hi).1 rfl), hH.set hi W' (o' := .inr (.inr (.inr (C, ty, xs.set n.toNatClampNeg x)))) ⟨Eq.wr W', _, A.same W', O, setSlot_list hs, fun y hy => (List.mem_or_eq_of_mem_set hy).elim (G y) fun q => by rw [q]; rcases F with rfl | ⟨y, rfl, F⟩ <;> rfl⟩, hr, stp⟩
theorem sta_of {args : Array Value} {s : State} {C n d K : String} (h : (Cond.exactly (Term.static C n d) K).value args s none s [] = some true) (wi : (Cond.initialized C).before args s = true) (wl : (Cond.laysStatic C n d).before args s = true) : ∃ a, Sta s s.heap C n d (.ref a) ∧ Exa s s.heap a K ∧ (Term.static C n d).eval args s none [] s = some (.ref a) := by
  obtain ⟨a, e⟩ := exa_v h
  exact ⟨a, Sta.start e (Or.inr ⟨wi, wl⟩), Exa.start e h, e⟩
theorem fld_of {args : Array Value} {s : State} {t : Term} {a : Addr} {C n d : String} {v : Int32} (e : t.eval args s none [] s = some (.ref a)) (h : (Cond.eq (Term.field t C n d) (Term.int v)).value args s none s [] = some true) : Fld s s.heap a C n d (.int v) :=
  Fld.start ((fld_at e).symm.trans (Cond.eq_int (Cond.before_iff.mpr h) rfl))
theorem Sat.keep {h h' : Heap} {b : Addr} {ws : List Addr} (K : Keep h h' ws) (q : b ∉ ws) : ∀ {o : ObjB}, Sat Z h b o → Sat Z h' b o
  | .inl (C, sg, vs), ⟨h1, h2, h3⟩ => ⟨h1.keep K, h2, fun i f v r t => (h3 i f v r t).keep K q⟩
  | .inr (.inl (ty, xs)), ⟨r, c, h1, h2⟩ => ⟨r.imp id (·.keep K), c, ⟨K.2.1 _ _ h1.1 q, h1.2⟩, h2⟩
  | .inr (.inr (.inl xs)), ⟨r, c, h1, h2⟩ => ⟨r.keep K, c, ⟨K.2.1 _ _ h1.1 q, h1.2⟩, h2⟩
  | .inr (.inr (.inr (C, ty, vs))), ⟨r, c, h1, h2⟩ => ⟨r.keep K, c, ⟨K.2.1 _ _ h1.1 q, h1.2⟩, h2⟩
theorem Hp.setK {h h' : Heap} (P : Hp Z h H) {i : Nat} {a : Addr} {o o' : ObjB} (q : H[i]? = some (a, (true, o))) (K : Keep h h' [a]) (S : Sat Z h' a o') : Hp Z h' (H.set i (a, (true, o'))) := by
  have g : Z.heap.size ≤ a := (P.at q).1 rfl
  obtain ⟨hi, hq⟩ := List.getElem?_eq_some_iff.mp q
  refine ⟨⟨Nat.le_trans P.1.1 K.1, fun b c r => ?_⟩, fun x hx => ?_, ?_⟩
  · have : b < Z.heap.size := (Array.getElem?_eq_some_iff.mp r).1
    exact K.2.1 _ _ (P.1.2 b c r) (ninS (by rintro rfl; exact absurd this (Nat.not_lt.mpr g)) nin0)
  · obtain ⟨n, hn⟩ := List.getElem?_of_mem hx
    rw [List.getElem?_set] at hn
    split at hn
    · have e0 : (a, (true, o')) = x := by simpa [hi] using hn
      subst e0; exact ⟨fun _ => g, S⟩
    · rename_i ne
      exact ⟨(P.at hn).1, (P.at hn).2.keep K (ninS (P.ne hn q (Or.inr rfl) (Ne.symm ne)) nin0)⟩
  · have e : (H.set i (a, (true, o'))).map (fun x => (x.1, x.2.1)) = H.map (fun x => (x.1, x.2.1)) := by
      rw [List.map_set]
      refine List.ext_getElem? fun n => ?_
      rw [List.getElem?_set]
      split
      · rename_i e; subst e
        simp [hi, hq]
      · rfl
    have h1 : (H.map (fun x => (x.1, x.2.1))).Pairwise (fun u v => (u.2 = true ∨ v.2 = true) → u.1 ≠ v.1) := List.pairwise_map.mpr P.2.2
    rw [← e] at h1
    exact List.pairwise_map.mp h1
theorem nat_i32 {n : Nat} (h : n < 2 ^ 31) : (Int32.ofNat n).toNatClampNeg = n ∧ ¬ Int32.ofNat n < 0 := by
  have e : (Int32.ofNat n).toInt = n := Int32.toInt_ofNat_of_lt h
  refine ⟨by simp only [Int32.toNatClampNeg, e]; omega, ?_⟩
  rw [Int32.lt_iff_toInt_lt, e]; simp only [Int32.reduceToInt]; omega
theorem Sat.arv {h : Heap} {a : Addr} {ty : FieldType} {xs : List Int32} (S : Sat Z h a (.inr (.inl (ty, xs)))) (hl : xs.length < 2 ^ 31) : ∃ kc, Arv Z h a kc ty (Int32.ofNat xs.length) (xs.map Value.int) (.int 0) := by
  obtain ⟨-, c, A, hs, G⟩ := S
  refine ⟨c.cls, c, A, rfl, by rw [hs, (nat_i32 hl).1]; simp, (nat_i32 hl).2, fun i hi => ?_, fun i hi => ?_⟩
  · rw [hs] at hi ⊢; simp at hi; simp [hi]
  · rw [hs] at hi; simp at hi; simp [hi, G _ (List.getElem_mem hi)]
theorem Arv.sat {h : Heap} {a : Addr} {kc : ClassId} {ty : FieldType} {xs : List Int32} (V : Arv Z h a kc ty (Int32.ofNat xs.length) (xs.map Value.int) (.int 0)) (hl : xs.length < 2 ^ 31) (Eq : ty = .byte ∨ Exa Z h a ("[" ++ ty.toString)) : Sat Z h a (.inr (.inl (ty, xs))) := by
  obtain ⟨c, A, -, S, -, Hs, G⟩ := V
  rw [(nat_i32 hl).1] at S
  refine ⟨Eq, c, A, ?_, fun x hx => ?_⟩
  · refine Array.ext_getElem? fun i => ?_
    by_cases hi : i < c.slots.size
    · rw [Hs i hi]; rw [S] at hi; simp [hi]
    · rw [Array.getElem?_eq_none (Nat.le_of_not_lt hi)]; rw [S] at hi; symm; simp; omega
  · obtain ⟨i, hi, rfl⟩ := List.getElem_of_mem hx
    have := G i (by rw [S]; exact hi)
    simpa [hi] using this
theorem wp_arraycopyI {i i' : Nat} {a c' : Addr} {fl : Bool} {ty : FieldType} {xs ys : List Int32} {sp dp nn : Int32} {idx : Nat} (m1 m2 m3 : Nat) (hd : Dc bytes pc (.invokestatic idx) 3 pc') (w1 : (Cond.methodLink own idx Jvm.Stand.acN).before a0 Z = true) (w2 : (Cond.native Jvm.Stand.acN).before a0 Z = true) (w3 : (Cond.static Jvm.Stand.acN).before a0 Z = true) (w4 : (Cond.initialized "java/lang/System").before a0 Z = true) (hi : H[i]? = some (a, (fl, .inr (.inl (ty, xs))))) (hi' : H[i']? = some (c', oA ty ys)) (hp : refKind ty = false) (h1 : ¬ sp < 0) (h2 : ¬ dp < 0) (h3 : ¬ nn < 0) (e1 : sp.toNatClampNeg = m1) (e2 : dp.toNatClampNeg = m2) (e3 : nn.toNatClampNeg = m3) (h4 : m1 + m3 ≤ xs.length) (h5 : m2 + m3 ≤ ys.length) (hx31 : xs.length < 2 ^ 31) (hy31 : ys.length < 2 ^ 31) (hsz : Ls.size = maxL) (hf : 1 ≤ R.frames) (hl : (st.map fun v => v.category).sum + (nativeFrameWords "java/lang/System" "arraycopy" 5 + 11) ≤ R.locals) (hr : Wp b l Z own nm bytes maxL ret R (H.set i' (c', oA ty (ys.take m2 ++ (xs.drop m1).take m3 ++ ys.drop (m2 + m3)))) k j pc' Ls st Q) : Wp b l Z own nm bytes maxL ret R H k j pc Ls (.int nn :: .int dp :: .ref c' :: .int sp :: .ref a :: st) Q := by
  obtain ⟨hd, rfl⟩ := hd
  subst e1 e2 e3
  refine Wp.stepH fun p e s m args below meth c T L hx hZ hby hml hown hnm hret X N hH => ?_
  obtain ⟨kc, V1⟩ := (hH.at hi).2.arv hx31
  obtain ⟨kd, V2⟩ := (hH.at hi').2.arv hy31
  obtain ⟨T', h', L', X', e', N', K', V', stp⟩ := cpA X hx hZ hown w1 w2 w3 w4 rfl V1 V2 (Or.inl ⟨rfl, hp⟩) h1 h2 h3 (by rw [(nat_i32 hx31).1]; exact h4) (by rw [(nat_i32 hy31).1]; exact h5) (us := ((xs.drop sp.toNatClampNeg).take nn.toNatClampNeg).map Value.int) (by
    refine List.ext_getElem? fun n => ?_
    simp only [List.getElem?_map, List.getElem?_range]
    by_cases hn : n < nn.toNatClampNeg
    · simp [hn, show sp.toNatClampNeg + n < xs.length by omega]
    · simp [hn]; omega) (by simpa using h5) N ((hH.at hi').1 rfl) (g := mkF m pc Ls (.int nn :: .int dp :: .ref c' :: .int sp :: .ref a :: st)) rfl (by rw [hml]; exact hsz) rfl (hb hby hd) hf (W := (st.map fun v => v.category).sum) (by show 2 * 0 + _ ≤ _; omega) hl
  subst e'
  have hlen : (ys.take dp.toNatClampNeg ++ (xs.drop sp.toNatClampNeg).take nn.toNatClampNeg ++ ys.drop (dp.toNatClampNeg + nn.toNatClampNeg)).length = ys.length := by
    simp only [List.length_append, List.length_take, List.length_drop]; omega
  refine ⟨T', L', k, j, _, _, Ls, st, X', K'.1, N', hH.setK hi' K' (Arv.sat (kc := kd) ?_ (by rw [hlen]; exact hy31) ((hH.at hi').2.1.imp id (·.keep K'))), hr, stp⟩
  rw [hlen]
  simpa [List.map_append, List.map_take, List.map_drop] using V'
theorem wp_anewarrayA {C : String} {ty : FieldType} {idx : Nat} {n : Int32} (cnt cap : Nat) (hd : Dc bytes pc (.anewarray idx) 3 pc') (hC : (FieldType.array ty).toString = C) (w1 : (Cond.classLink own idx C).before a0 Z = true) (w2 : (Cond.arrayOver (.array ty)).before a0 Z = true) (hn : ¬ n < 0) (hcnt : n.toNatClampNeg = cnt) (hcap : cnt ≤ cap) (hb8 : cap * 8 ≤ 536870912) (hc : k + 1 ≤ R.cells) (hl : j + cap ≤ R.slots) (hr : ∀ a, Wp b l Z own nm bytes maxL ret R ((a, oR C (.array ty) (List.replicate cnt .null)) :: H) (k + 1) (j + cap) pc' Ls (.ref a :: st) Q) : Wp b l Z own nm bytes maxL ret R H k j pc Ls (.int n :: st) Q := by
  obtain ⟨hd, rfl⟩ := hd
  refine Wp.stepH fun p e s m args below meth c T L hx hZ hby hml hown hnm hret X N hH => ?_
  obtain ⟨T', h', cA, X', e', E', A', B', O', stp⟩ := newRA X hx hZ hown hC w1 w2 rfl (g := mkF m pc Ls (.int n :: st)) rfl (hb hby hd) rfl hn (cap := cap) (by rw [hcnt]; exact hcap) hb8 hc hl rfl
  subst e'
  refine ⟨T', L, _, _, _, _, Ls, _, X', E'.1, N, hH.cons E' (o := .inr (.inr (.inr (C, .array ty, List.replicate cnt .null)))) ⟨by rw [hC]; exact B', _, A', O', ?_, fun v hv => ?_⟩, hr _, stp⟩
  · simp [newA, hcnt, defaultValue]
  · rw [(List.mem_replicate.mp hv).2]; rfl
theorem ins_arr {i : Nat} {a : Addr} {fl : Bool} {ty : FieldType} {xs : List Int32} {K : String} (hi : H[i]? = some (a, (fl, .inr (.inl (ty, xs))))) (hty : ty ≠ .byte) (wc : (Cond.castable ("[" ++ ty.toString) K).before a0 Z = true) : ∀ h, Hp Z h H → Ins Z h a K true := fun h P => Ins.of_exa ((P.at hi).2.1.resolve_left hty) wc
theorem ins_new {i : Nat} {a : Addr} {fl : Bool} {C K : String} {sg : OSig} {vs : List Value} (hi : H[i]? = some (a, (fl, .inl (C, sg, vs)))) (wc : (Cond.castable C K).before a0 Z = true) : ∀ h, Hp Z h H → Ins Z h a K true := fun h P => Ins.of_exa (P.at hi).2.1 wc
theorem ns_root {O K : String} {kk : Nat} (w : (Cond.noSuperclass O).before a0 Z = true) (wk : (Cond.instantiable K kk).before a0 Z = true) (hn : O ≠ K) : NS Z O K := by
  obtain ⟨c, k, h1, h2, h3, -, -⟩ := Cond.noSuperclass_spec w
  obtain ⟨t, kt, g1, -⟩ := Cond.instantiable_spec wk
  have ne := ids_ne h1 g1 hn
  refine ⟨c, t, h1, g1, fun fuel => ?_⟩
  cases fuel with
  | zero => rfl
  | succ f => simp [Vm.isSubclassAux, ne, h2, h3]
theorem ns_no {C S K : String} {kk : Nat} (w : (Cond.superclass C S).before a0 Z = true) (wk : (Cond.instantiable K kk).before a0 Z = true) (n : NS Z C K) (hn : C ≠ K) : ∃ c t, Z.vm.findClass C = some c ∧ Z.vm.findClass K = some t ∧ Z.vm.assignable c t = false := by
  obtain ⟨c, t, h0, g0, n3⟩ := n
  obtain ⟨p, k, kp, h1, h2, h3, h4, h5, -, h7⟩ := Cond.superclass_spec h0 w
  obtain ⟨t', kt, g1, g2, g5, g6, -⟩ := Cond.instantiable_spec wk
  cases g0.symm.trans g1
  have g7 : kt.isInterface = false := by cases q : kt.isInterface with | false => rfl | true => rw [q] at g6; cases g6
  have ne := ids_ne h0 g0 hn
  refine ⟨c, t, h0, g0, ?_⟩
  show Z.vm.assignableAux (255 + 1) c t = false
  simp [Vm.assignableAux, ne, h2, g2, h5, g5, g7, Vm.isSubclass, n3]
theorem wp_aaload_old {a : Addr} {cl : Cell} {ty : FieldType} {n : Int32} {x : Value} (hd : Dc bytes pc .aaload 1 pc') (A : Arr Z Z.heap a cl ty) (hty : ty.isReference = true) (hin : ¬ (n < 0 ∨ cl.slots.size ≤ n.toNatClampNeg)) (hv : cl.slots[n.toNatClampNeg]? = some x) (hr : Wp b l Z own nm bytes maxL ret R H k j pc' Ls (x :: st) Q) : Wp b l Z own nm bytes maxL ret R H k j pc Ls (.int n :: .ref a :: st) Q := by
  obtain ⟨hd, rfl⟩ := hd
  refine Wp.step (fun p e s m args below meth c T L hx hZ hby hown X hH target h => ?_) hr
  exact X.aaload hx (hH.1.2 _ _ A.1) (State.isArrayOf_alike hZ.alike A.2.1) hty A.2.2 hin hv (g := mkF m pc Ls (.int n :: .ref a :: st)) rfl rfl (hb hby hd) _ h
theorem Hp.old {h : Heap} (P : Hp Z h H) {a : Addr} {o : ObjB} (S : Sat Z Z.heap a o) : Hp Z h ((a, (false, o)) :: H) :=
  ⟨P.1, fun x q => (List.mem_cons.mp q).elim (fun e => by subst e; exact ⟨(fun e => nomatch e), S.ext P.1⟩) fun q => P.2.1 x q,
    List.Pairwise.cons (fun y q t e => absurd ((P.2.1 y q).1 (t.elim (fun e => nomatch e) id)) (by rw [← e]; exact Nat.not_le.mpr S.lt)) P.2.2⟩
/-- an object of the start is laid to the list, only to be read -/
theorem Wp.old {a : Addr} {o : ObjB} (S : Sat Z Z.heap a o) (hr : Wp b l Z own nm bytes maxL ret R ((a, (false, o)) :: H) k j pc Ls st Q) : Wp b l Z own nm bytes maxL ret R H k j pc Ls st Q :=
  Wp.stepH fun p e s m args below meth c T L hx hZ hby hml hown hnm hret X N hH => ⟨T, L, k, j, _, pc, Ls, st, X, Nat.le_refl _, N, hH.old S, hr, fun _ q => q⟩
abbrev sgStr : OSig := [("java/lang/String", "value", "[B"), ("java/lang/String", "coder", "B")]
abbrev strO (v : Addr) : Obj := fI "java/lang/String" sgStr [.ref v, .int 0]
theorem wp_ldcV {text : String} {Ts : List String} {idx n : Nat} (xs : List Int32) (hd : Dc bytes pc (.ldc idx) 2 pc') (w : (Cond.stringLink own idx text).before a0 Z = true) (wS : ∀ a ∈ Bundle.stringAtoms, a.before a0 Z = true) (slo : Slo Z sgStr) (hh : Jvm.Lit.constHeld Z own idx) (hcw : Jvm.Lit.compactW.before a0 Z = true) (hnot : text ∉ Ts) (ht : (∀ c ∈ text.toList, c.toNat < 256) ∧ text.toList.map (fun c => Value.int (Jvm.Lit.byteI c.toNat.toUInt16)) = xs.map Value.int) (h31 : xs.length < 2 ^ 31) (hn : 4 * text.toList.length ≤ n) (hbig : n ≤ 536870912) (hc : k + 2 ≤ R.cells) (hl : j + (n + 4) ≤ R.slots) (hr : ∀ a v, Wp (some (some (text :: Ts))) l Z own nm bytes maxL ret R ((a, strO v) :: (v, fA .byte xs) :: H) (k + 2) (j + (n + 4)) pc' Ls (.ref a :: st) Q) : Wp (some (some Ts)) l Z own nm bytes maxL ret R H k j pc Ls st Q := by
  obtain ⟨hd, rfl⟩ := hd
  intro p e s vm0 k0 m args below meth c T L hx hZ hS hk hby hml hown hnm hret X N hH hB
  obtain ⟨eZ, I⟩ := hB Ts rfl
  obtain ⟨a, T', h', k1, v, kc, X', e', E', hS', hk1, hZ', hown', A1, A2, A3, A4, l1, l2, I', -, wh, stp⟩ := ldcSVd X hx hZ hown w wS rfl hS hk (by rw [eZ]; exact N) (fun b cl q => by rw [eZ]; exact q) I hnot hh hcw (z := Int32.ofNat xs.length) ht (nat_i32 h31).2 (by rw [(nat_i32 h31).1]; simp) (g := mkF m pc Ls st) rfl (hb hby hd) hn hbig hc hl
  subst e'
  have far : ∀ y ∈ H, y.2.1 = true → a ≠ y.1 ∧ v ≠ y.1 := by
    intro y q t
    have g1 := (hH.2.1 y q).1 t
    have g2 := (hH.2.1 y q).2.lt
    rw [eZ] at wh
    constructor
    · intro e0; rw [← e0] at g1 g2
      rcases wh with w1 | w1
      · exact absurd w1.1 (Nat.not_lt.mpr g1)
      · exact absurd g2 (Nat.not_lt.mpr w1.1)
    · intro e0; rw [← e0] at g1 g2
      rcases wh with w1 | w1
      · exact absurd w1.2 (Nat.not_lt.mpr g1)
      · exact absurd g2 (Nat.not_lt.mpr w1.2)
  have Sa : Sat Z T'.heap a (.inl ("java/lang/String", sgStr, [.ref v, .int 0])) := by
    refine ⟨A1, slo, fun i f u q r => ?_⟩
    rcases i with _ | _ | i
    · cases q; cases r; exact A3
    · cases q; cases r; exact A2
    · simp at q
  have Sv : Sat Z T'.heap v (.inr (.inl (.byte, xs))) := Arv.sat A4 h31 (Or.inl rfl)
  have H2 : Hp Z T'.heap ((a, strO v) :: (v, fA .byte xs) :: H) := by
    have h0 := hH.ext E'
    refine ⟨h0.1, fun x q => ?_, List.Pairwise.cons (fun y q t => ?_) (List.Pairwise.cons (fun y q t => ?_) h0.2.2)⟩
    · rcases List.mem_cons.mp q with rfl | q
      · exact ⟨(fun e => nomatch e), Sa⟩
      · rcases List.mem_cons.mp q with rfl | q
        · exact ⟨(fun e => nomatch e), Sv⟩
        · exact h0.2.1 x q
    · rcases List.mem_cons.mp q with rfl | q
      · rcases t with t | t <;> cases t
      · exact (far y q (t.elim (fun e => nomatch e) id)).1
    · exact (far y q (t.elim (fun e => nomatch e) id)).2
  obtain ⟨T2, u, L2, k2, j2, vm1, k3, H3, ⟨r0, r1, r2⟩, r3, ⟨r4, r5, r6⟩, r7, r8, r9, r10, r11⟩ := hr a v p e s T'.vm k1 m args below meth c T' L hx hZ' hS' hk1 hby hml hown' hnm hret X' N H2 (fun Ts' q => by cases q; exact ⟨eZ, I'⟩)
  exact ⟨T2, u, L2, k2, j2, vm1, k3, H3, ⟨r0, r1, fun q => nomatch q⟩, r3, ⟨r4, r5, Nat.le_trans E'.1 r6⟩, r7, r8, r9, r10, fun fs hl => stp _ (r11 fs hl)⟩
theorem Fld.fun {h : Heap} {a : Addr} {C n d : String} {u v : Value} (F : Fld Z h a C n d u) (G : Fld Z h a C n d v) : u = v := by
  obtain ⟨c, cf, k, i, f, h1, h2, -, -, -, -, h7⟩ := F
  obtain ⟨c', cf', k', i', f', g1, g2, -, -, -, -, g7⟩ := G
  cases h1.symm.trans g1
  cases h2.symm.trans g2
  exact Option.some.inj (h7.symm.trans g7)
/-- two Strings of unlike contents are two -/
theorem str_ne {h : Heap} {i i' k k' : Nat} {s s' v v' : Addr} {xs ys : List Int32} (P : Hp Z h H) (h1 : H[i]? = some (s, strO v)) (h2 : H[k]? = some (v, fA .byte xs)) (h3 : H[i']? = some (s', strO v')) (h4 : H[k']? = some (v', fA .byte ys)) (ne : xs ≠ ys) : ¬ Value.ref s = Value.ref s' := by
  intro e
  cases e
  have f1 := (P.at h1).2.2.2 0 _ _ rfl rfl
  have f2 := (P.at h3).2.2.2 0 _ _ rfl rfl
  cases Fld.fun f1 f2
  obtain ⟨-, c, A, hs, -⟩ := (P.at h2).2
  obtain ⟨-, c', A', hs', -⟩ := (P.at h4).2
  cases A.1.symm.trans A'.1
  have e0 : xs.map Value.int = ys.map Value.int := congrArg Array.toList (hs.symm.trans hs')
  exact ne (List.map_inj_right (fun a b q => by cases q; rfl) |>.mp e0)
theorem bytes_old {t : Term} {a : Addr} {xs : List Int32} {cl : Cell} (A : Arr Z Z.heap a cl .byte) (hs : cl.slots = (xs.map Value.int).toArray) (hf : ∀ x ∈ xs, fits .byte (.int x) = true) : Sat Z Z.heap a (.inr (.inl (.byte, xs))) := ⟨Or.inl rfl, cl, A, hs, hf⟩
theorem str_old {a v : Addr} (slo : Slo Z sgStr) (E : Exa Z Z.heap a "java/lang/String") (F : Fld Z Z.heap a "java/lang/String" "value" "[B" (.ref v)) (G : Fld Z Z.heap a "java/lang/String" "coder" "B" (.int 0)) : Sat Z Z.heap a (.inl ("java/lang/String", sgStr, [.ref v, .int 0])) := by
  refine ⟨E, slo, fun i f u q r => ?_⟩
  rcases i with _ | _ | i
  · cases q; cases r; exact F
  · cases q; cases r; exact G
  · simp at q
/-- the contract of a body with an exception table (the walk throws nothing) -/
def MetX (l : Launch) (Z : State) (y : MethodName) (bytes : ByteArray) (maxL : Nat) (ret : Option FieldType) (hs : List (Nat × Nat × Nat × Nat)) (rm : Room) (as' : List Value) (H : OH) (Q : Option Value → OH → Prop) : Prop :=
  ∀ (ws : List Jvm.Cond) (h : Heap), Hp Z h H → MetFree l y (head1 (Jvm.Cond.codeWith y bytes maxL ret hs :: ws) rm) (fun a U => a = as'.toArray ∧ Z.Warmed39 U.vm ∧ U.heap = h) (fun _ _ _ _ _ => True)
    (fun _ U o U' => ∃ v L, o = .returned v ∧ (Fr Z.heap.size L ∧ h.size ≤ U'.heap.size ∧ ∃ H', Hp Z U'.heap H' ∧ Q v H') ∧ FrameEnd U o U' L rm.cells rm.slots)
theorem MetX.of_wp {y : MethodName} {hs : List (Nat × Nat × Nat × Nat)} {rm : Room} {as' : List Value} (hx : plainFor y = true) (hef : ∀ m, entryFrame m as'.toArray maxL = mkF m 0 Ls []) (hw : Wp none l Z y.cls y.name bytes maxL ret rm H 0 0 0 Ls [] Q) : MetX l Z y bytes maxL ret hs rm as' H Q := by
  intro ws h hH
  refine MetFree.of_bodySF hx hisWith ?_
  intro p e s m args below meth c s₁ Bd hml0 hP hK
  obtain ⟨rfl, hZ, hh⟩ := hP
  have X0 : Stand p l e rm s m as'.toArray below meth c s₁ [] 0 0 := Stand.of_body Bd
  have e0 : s₁.heap = h := by rw [← hh, Bd.state]; rfl
  obtain ⟨T', v, L', k', j', vm1, k1, H', ⟨hS, hk1, hvm⟩, X', ⟨hc, hj, hsz⟩, N', hH', hv, hQ, stp⟩ := hw p e s s.vm 0 m as'.toArray below meth c s₁ [] Bd.exec hZ ((State.WarmedH.refl s).since 0) (Nat.zero_le _) Bd.bytes hml0 (findClass_of_methodNamed Bd.named) (name_of_methodNamed Bd.named Bd.method).1 Bd.returns X0 (Fr.nil _) (by rw [e0]; exact hH) (fun _ q => nomatch q)
  obtain rfl := hvm rfl
  have X'' : Stand p l e rm s m as'.toArray below meth c T' L' k' j' := X'
  obtain ⟨fs, hr, hrun, hended, hW, hsame⟩ := X''.leave (v := v) (fun h => hv (Bd.returns.symm.trans h))
  refine ⟨_, _, castTop (hef m) (stp fs hr), hrun, hended, v, L', rfl, ⟨N', ?_, H', hH', hQ⟩, ⟨_, rfl⟩, hW, hsame.mono hc hj⟩
  rw [e0] at hsz; exact hsz
theorem wp_virtualX {hs : List (Nat × Nat × Nat × Nat)} {y : MethodName} {bytes' : ByteArray} {maxL' : Nat} {ret' : Option FieldType} {rm : Room} {rest : List Value} {Q' : Option Value → OH → Prop} {idx : Nat} {ps : List FieldType} {rt : Option FieldType} {x : MethodName} {C : String} {a : Addr} {as' : List Value} (M : MetX l Z y bytes' maxL' ret' hs rm (.ref a :: as') H Q') (E : ExaAt Z H a C) (hd : Dc bytes pc (.invokevirtual idx) 3 pc') (w1 : (Cond.methodLink own idx x).before a0 Z = true) (w2 : (Cond.declares x).before a0 Z = true) (wn : (Cond.selects x.cls x x).before a0 Z = true) (ws : (Cond.selects C x y).before a0 Z = true) (wi : (Cond.instanceMethod y).before a0 Z = true) (w3 : (Cond.initialized y.cls).before a0 Z = true) (w4 : (Cond.codeWith y bytes' maxL' ret' hs).before a0 Z = true) (hy : x.cls ≠ "java/lang/invoke/MethodHandle" ∧ x.cls ≠ "java/lang/invoke/VarHandle") (hpd : parseMethodDescriptor x.desc = some ⟨ps, rt⟩) (hlen : as'.length = ps.length) (hst : st = as'.reverse ++ .ref a :: rest) (hsz : Ls.size = maxL) (hf : rm.frames + 1 ≤ R.frames) (hl : (rest.map fun v => v.category).sum + (maxL' + 11) + rm.locals ≤ R.locals) (hc : k + rm.cells ≤ R.cells) (hj : j + rm.slots ≤ R.slots) (hr : ∀ v H', Q' v H' → Wp b l Z own nm bytes maxL ret R H' (k + rm.cells) (j + rm.slots) pc' Ls (v.toList ++ rest) Q) : Wp b l Z own nm bytes maxL ret R H k j pc Ls st Q := by
  obtain ⟨hd, rfl⟩ := hd
  refine Wp.stepH fun p e s m args below meth c T L hx hZ hby hml hown hnm hret X N hH => ?_
  obtain ⟨cq, kq, q1, q2, q3⟩ := isOf hZ rfl (E _ hH)
  obtain ⟨v, _, ⟨T', L', k', n'⟩, -, X', ⟨Lc, ⟨N', hsz', H', hH', hQ⟩, l1, y1, z1⟩, stp⟩ := X.virtualBack hx (y := x) (z := y) hown (mvT hZ w1) (mvT hZ w2) (notFace_of_selects (args := #[]) (mvT hZ wn)) (mvT hZ ws) (mvT hZ wi) hy (backOfWith (W := (rest.map fun v => v.category).sum) (Q := fun v h L => Fr Z.heap.size L ∧ T.heap.size ≤ h.size ∧ ∃ H', Hp Z h H' ∧ Q' v H') (M [] T.heap hH) hZ w4 w3 hf hl) q1 q3 (g := mkF m pc Ls st) rfl (by rw [hml]; exact hsz) (Steps.refl _) (argsL := as') (rest := rest) (lenOf hpd hlen) hst (by show 2 * 0 + _ ≤ _; omega) (hb hby hd) (fun _ _ => ⟨rfl, rfl, hc, hj⟩)
  dsimp only [Pt.U, Pt.locs, Pt.cells, Pt.slots] at X' l1 y1 z1 stp hH' hsz'
  subst l1 y1 z1
  exact ⟨T', _, _, _, H', _, Ls, v.toList ++ rest, X', hsz', N.app N', hH', hr v H' hQ, fun _ q => stp.trans q⟩
theorem wp_callSX {hs : List (Nat × Nat × Nat × Nat)} {y : MethodName} {bytes' : ByteArray} {maxL' : Nat} {ret' : Option FieldType} {rm : Room} {rest : List Value} {Q' : Option Value → OH → Prop} {idx : Nat} {ps : List FieldType} {rt : Option FieldType} {as' : List Value} (M : MetX l Z y bytes' maxL' ret' hs rm as' H Q') (hd : Dc bytes pc (.invokestatic idx) 3 pc') (w1 : (Cond.methodLink own idx y).before a0 Z = true) (w2 : (Cond.static y).before a0 Z = true) (w3 : (Cond.initialized y.cls).before a0 Z = true) (w4 : (Cond.codeWith y bytes' maxL' ret' hs).before a0 Z = true) (hy : y.cls ≠ "java/lang/invoke/MethodHandle" ∧ y.cls ≠ "java/lang/invoke/VarHandle") (hpd : parseMethodDescriptor y.desc = some ⟨ps, rt⟩) (hlen : as'.length = ps.length) (hst : st = as'.reverse ++ rest) (hsz : Ls.size = maxL) (hf : rm.frames + 1 ≤ R.frames) (hl : (rest.map fun v => v.category).sum + (maxL' + 11) + rm.locals ≤ R.locals) (hc : k + rm.cells ≤ R.cells) (hj : j + rm.slots ≤ R.slots) (hr : ∀ v H', Q' v H' → Wp b l Z own nm bytes maxL ret R H' (k + rm.cells) (j + rm.slots) pc' Ls (v.toList ++ rest) Q) : Wp b l Z own nm bytes maxL ret R H k j pc Ls st Q := by
  obtain ⟨hd, rfl⟩ := hd
  refine Wp.stepH fun p e s m args below meth c T L hx hZ hby hml hown hnm hret X N hH => ?_
  obtain ⟨v, _, ⟨T', L', k', n'⟩, -, X', ⟨Lc, ⟨N', hsz', H', hH', hQ⟩, l1, y1, z1⟩, stp⟩ := Jvm.RoadKit.callSH X hx (y := y) hown (mvT hZ w1) (mvT hZ w2) (mvT hZ w3) (mvT hZ w4) hy (backOfWith (W := (rest.map fun v => v.category).sum) (Q := fun v h L => Fr Z.heap.size L ∧ T.heap.size ≤ h.size ∧ ∃ H', Hp Z h H' ∧ Q' v H') (M [] T.heap hH) hZ w4 w3 hf hl) (g := mkF m pc Ls st) rfl (by rw [hml]; exact hsz) (argsL := as') (rest := rest) (lenOf hpd hlen) hst (by show 2 * 0 + _ ≤ _; omega) (hb hby hd) (fun _ _ => ⟨rfl, rfl, hc, hj⟩)
  dsimp only [Pt.U, Pt.locs, Pt.cells, Pt.slots] at X' l1 y1 z1 stp hH' hsz'
  subst l1 y1 z1
  exact ⟨T', _, _, _, H', _, Ls, v.toList ++ rest, X', hsz', N.app N', hH', hr v H' hQ, stp⟩
theorem wp_dload_n {n : Fin 4} {v : UInt64} (hd : Dc bytes pc (.dload_n n) 1 pc') (hl : Ls[n.val]? = some (.val (.double v))) (hr : Wp b l Z own nm bytes maxL ret R H k j pc' Ls (.double v :: st) Q) : Wp b l Z own nm bytes maxL ret R H k j pc Ls st Q := by
  obtain ⟨hd, rfl⟩ := hd
  exact Wp.step (fun p e s m args below meth c T L hx hZ hby hown X hH target ht => XS.dloadN X.here hx rfl (hb hby hd) hl ht) hr
theorem wp_dload {n : Nat} {v : UInt64} (hd : Dc bytes pc (.dload n) 2 pc') (hl : Ls[n]? = some (.val (.double v))) (hr : Wp b l Z own nm bytes maxL ret R H k j pc' Ls (.double v :: st) Q) : Wp b l Z own nm bytes maxL ret R H k j pc Ls st Q := by
  obtain ⟨hd, rfl⟩ := hd
  exact Wp.step (fun p e s m args below meth c T L hx hZ hby hown X hH target ht => XS.dload X.here hx rfl (hb hby hd) hl ht) hr
theorem wp_dstore_n {n : Fin 4} {x : UInt64} (Ls' : Array Slot) (hd : Dc bytes pc (.dstore_n n) 1 pc') (hl : storeLocals Ls n.val (.double x) = some Ls') (hr : Wp b l Z own nm bytes maxL ret R H k j pc' Ls' st Q) : Wp b l Z own nm bytes maxL ret R H k j pc Ls (.double x :: st) Q := by
  obtain ⟨hd, rfl⟩ := hd
  exact Wp.step (fun p e s m args below meth c T L hx hZ hby hown X hH target ht => XS.dstoreN X.here hx rfl (hb hby hd) rfl hl ht) hr
theorem wp_dstore {n : Nat} {x : UInt64} (Ls' : Array Slot) (hd : Dc bytes pc (.dstore n) 2 pc') (hl : storeLocals Ls n (.double x) = some Ls') (hr : Wp b l Z own nm bytes maxL ret R H k j pc' Ls' st Q) : Wp b l Z own nm bytes maxL ret R H k j pc Ls (.double x :: st) Q := by
  obtain ⟨hd, rfl⟩ := hd
  exact Wp.step (fun p e s m args below meth c T L hx hZ hby hown X hH target ht => XS.dstore X.here hx rfl (hb hby hd) rfl hl ht) hr
theorem wp_dconst0 (v : UInt64) (hd : Dc bytes pc (.dconst 0) 1 pc') (hv : FP.dconst0 = v) (hr : Wp b l Z own nm bytes maxL ret R H k j pc' Ls (.double v :: st) Q) : Wp b l Z own nm bytes maxL ret R H k j pc Ls st Q := by
  obtain ⟨hd, rfl⟩ := hd
  exact Wp.step (fun p e s m args below meth c T L hx hZ hby hown X hH target ht => XS.dconst0 X.here hx rfl (hb hby hd) hv ht) hr
theorem wp_dconst1 (v : UInt64) (hd : Dc bytes pc (.dconst 1) 1 pc') (hv : FP.dconst1 = v) (hr : Wp b l Z own nm bytes maxL ret R H k j pc' Ls (.double v :: st) Q) : Wp b l Z own nm bytes maxL ret R H k j pc Ls st Q := by
  obtain ⟨hd, rfl⟩ := hd
  exact Wp.step (fun p e s m args below meth c T L hx hZ hby hown X hH target ht => XS.dconst1 X.here hx rfl (hb hby hd) hv ht) hr
theorem wp_i2d {x : Int32} (v : UInt64) (hd : Dc bytes pc (.i2d) 1 pc') (hv : FP.i2d x = v) (hr : Wp b l Z own nm bytes maxL ret R H k j pc' Ls (.double v :: st) Q) : Wp b l Z own nm bytes maxL ret R H k j pc Ls (.int x :: st) Q := by
  obtain ⟨hd, rfl⟩ := hd
  exact Wp.step (fun p e s m args below meth c T L hx hZ hby hown X hH target ht => XS.i2dS X.here hx rfl (hb hby hd) rfl hv ht) hr
theorem wp_dadd {x y : UInt64} (v : UInt64) (hd : Dc bytes pc (.dadd) 1 pc') (hn : Jvm.Free.Fl.NoNaN64 (FP.dadd x y)) (hv : FP.dadd x y = v) (hr : Wp b l Z own nm bytes maxL ret R H k j pc' Ls (.double v :: st) Q) : Wp b l Z own nm bytes maxL ret R H k j pc Ls (.double y :: .double x :: st) Q := by
  obtain ⟨hd, rfl⟩ := hd
  exact Wp.step (fun p e s m args below meth c T L hx hZ hby hown X hH target ht => XS.daddS X.here hx rfl (hb hby hd) rfl hn hv ht) hr
theorem wp_ddiv {x y : UInt64} (v : UInt64) (hd : Dc bytes pc (.ddiv) 1 pc') (hn : Jvm.Free.Fl.NoNaN64 (FP.ddiv x y)) (hv : FP.ddiv x y = v) (hr : Wp b l Z own nm bytes maxL ret R H k j pc' Ls (.double v :: st) Q) : Wp b l Z own nm bytes maxL ret R H k j pc Ls (.double y :: .double x :: st) Q := by
  obtain ⟨hd, rfl⟩ := hd
  exact Wp.step (fun p e s m args below meth c T L hx hZ hby hown X hH target ht => XS.ddivS X.here hx rfl (hb hby hd) rfl hn hv ht) hr
theorem wp_dcmp {o : CmpOp} {x y : UInt64} (v : Int32) (hd : Dc bytes pc (.dcmp o) 1 pc') (hv : cmpValue (FP.dcmp x y) o = v) (hr : Wp b l Z own nm bytes maxL ret R H k j pc' Ls (.int v :: st) Q) : Wp b l Z own nm bytes maxL ret R H k j pc Ls (.double y :: .double x :: st) Q := by
  obtain ⟨hd, rfl⟩ := hd
  exact Wp.step (fun p e s m args below meth c T L hx hZ hby hown X hH target ht => XS.dcmpS X.here hx rfl (hb hby hd) rfl hv ht) hr
theorem wp_ldc2D {i : Nat} {v : UInt64} (hd : Dc bytes pc (.ldc2_w i) 3 pc') (w : (Cond.constantDouble own i v).before a0 Z = true) (hr : Wp b l Z own nm bytes maxL ret R H k j pc' Ls (.double v :: st) Q) : Wp b l Z own nm bytes maxL ret R H k j pc Ls st Q := by
  obtain ⟨hd, rfl⟩ := hd
  exact Wp.step (fun p e s m args below meth c T L hx hZ hby hown X hH target ht => X.ldc2DoubleC hx hown (mvT hZ w) (g := mkF m pc Ls st) rfl (hb hby hd) _ ht) hr
theorem wp_dreturn {x : UInt64} (hd : Dc bytes pc .dreturn 1 pc') (hr : ret = some .double) (hk : k ≤ R.cells) (hj : j ≤ R.slots) (hQ : Q (some (.double x)) H) : Wp b l Z own nm bytes maxL ret R H k j pc Ls (.double x :: st) Q :=
  fun p e s vm0 k0 m args below meth c T L hx hZ hS hkz hby hml hown hnm hret X N hH hB => ⟨T, (some (.double x)), L, k, j, vm0, k0, H, ⟨hS, hkz, fun _ => rfl⟩, X, ⟨hk, hj, Nat.le_refl _⟩, N, hH, fun h => by first | rfl | (rw [hr] at h; cases h), hQ, fun fs hl => retOut X hx (hret.trans hr) rfl (Or.inr (Or.inr (Or.inl ⟨rfl, rfl, x, rfl⟩))) (hb hby hd.1) hl⟩
end Own
def sg_1 : OSig := [("com/example/keyword_to_concept/keywordtoconcept/evaluation/RankedTopic", "relevantAtRank", "[Z"), ("com/example/keyword_to_concept/keywordtoconcept/evaluation/RankedTopic", "relevant", "I")]
theorem laid_sg_1 (l : Launch) (Z : State) (a0 : Array Value) (hw : ∀ d ∈ tables_1, d.before a0 Z = true) : ∀ f ∈ sg_1, Laid Z a0 "com/example/keyword_to_concept/keywordtoconcept/evaluation/RankedTopic" f.1 f.2.1 f.2.2 := all_cons (Or.inr (hw _ (List.mem_of_getElem? (i := 12) rfl))) (all_cons (Or.inr (hw _ (List.mem_of_getElem? (i := 14) rfl))) (all_nil))
theorem dfl_sg_1 : Dfl sg_1 [(.null), (.int (0 : Int32))] := ⟨⟨(.array .boolean), by decide +kernel, rfl⟩, ⟨.int, by decide +kernel, rfl⟩, trivial⟩
theorem pn_1 : plainFor (⟨"com/example/keyword_to_concept/keywordtoconcept/evaluation/RankedTopic", "<init>", "([ZI)V"⟩ : MethodName) = true := by first | exact plainFor_of_name (by first | (simp [plainName, overriddenIn]; done) | decide +kernel) | decide +kernel
theorem D_prog_7_m1_0 : Dc prog_7_method_1_code 0 (.aload_n 0) 1 1 := ⟨by decide +kernel, rfl⟩
theorem D_prog_7_m1_1 : Dc prog_7_method_1_code 1 (.invokespecial 1) 3 4 := ⟨by decide +kernel, rfl⟩
theorem D_prog_7_m1_4 : Dc prog_7_method_1_code 4 (.aload_n 0) 1 5 := ⟨by decide +kernel, rfl⟩
theorem D_prog_7_m1_5 : Dc prog_7_method_1_code 5 (.aload_n 1) 1 6 := ⟨by decide +kernel, rfl⟩
theorem D_prog_7_m1_6 : Dc prog_7_method_1_code 6 (.putfield 7) 3 9 := ⟨by decide +kernel, rfl⟩
theorem D_prog_7_m1_9 : Dc prog_7_method_1_code 9 (.aload_n 0) 1 10 := ⟨by decide +kernel, rfl⟩
theorem D_prog_7_m1_10 : Dc prog_7_method_1_code 10 (.iload_n 2) 1 11 := ⟨by decide +kernel, rfl⟩
theorem D_prog_7_m1_11 : Dc prog_7_method_1_code 11 (.putfield 13) 3 14 := ⟨by decide +kernel, rfl⟩
theorem D_prog_7_m1_14 : Dc prog_7_method_1_code 14 (.return_) 1 15 := ⟨by decide +kernel, rfl⟩
def Q_c_ini (o x : Addr) (n : Int32) (F : OH) : Option Value → OH → Prop := fun v H' => v = none ∧ H' = (o, oI "com/example/keyword_to_concept/keywordtoconcept/evaluation/RankedTopic" sg_1 [(.ref x), (.int n)]) :: F
set_option maxRecDepth 65536 in
set_option maxHeartbeats 40000000 in
theorem c_ini (l : Launch) (Z : State) (a0 : Array Value) (hw : ∀ d ∈ tables_1, d.before a0 Z = true) (o x : Addr) (n : Int32) (F : OH)  :
    Met l Z (⟨"com/example/keyword_to_concept/keywordtoconcept/evaluation/RankedTopic", "<init>", "([ZI)V"⟩ : MethodName) prog_7_method_1_code 3 none ({ frames := 1, cells := 0, slots := 0, locals := 12 } : Room) [(.ref o), (.ref x), (.int n)] ((o, oI "com/example/keyword_to_concept/keywordtoconcept/evaluation/RankedTopic" sg_1 [(.null), (.int (0 : Int32))]) :: F) (Q_c_ini o x n F) := by
  refine Met.of_wp (Ls := #[.val (.ref o), .val (.ref x), .val (.int n)]) pn_1 (fun m => by first | rfl | (simp [entryFrame, mkF, argsToLocals, Value.category]; done)) ?_
  show Wp none l Z "com/example/keyword_to_concept/keywordtoconcept/evaluation/RankedTopic" "<init>" prog_7_method_1_code 3 none ({ frames := 1, cells := 0, slots := 0, locals := 12 } : Room) ((o, oI "com/example/keyword_to_concept/keywordtoconcept/evaluation/RankedTopic" sg_1 [(.null), (.int (0 : Int32))]) :: F) 0 0 0 #[.val (.ref o), .val (.ref x), .val (.int n)] [] (Q_c_ini o x n F)
  refine wp_aload_n D_prog_7_m1_0 rfl rfl ?_
  refine wp_initO D_prog_7_m1_1 (hw _ (List.mem_of_getElem? (i := 8) rfl)) (hw _ (List.mem_of_getElem? (i := 9) rfl)) (hw _ (List.mem_of_getElem? (i := 10) rfl)) rfl (Nat.le_of_ble_eq_true rfl) (Nat.le_of_ble_eq_true rfl) ?_
  refine wp_aload_n D_prog_7_m1_4 rfl rfl ?_
  refine wp_aload_n D_prog_7_m1_5 rfl rfl ?_
  refine wp_putfield (i := 0) (fi := 0) (ty := (.array .boolean)) D_prog_7_m1_6 (hw _ (List.mem_of_getElem? (i := 11) rfl)) rfl rfl rfl (Or.inr ⟨(hw _ (List.mem_of_getElem? (i := 12) rfl)), rfl, rfl⟩) (hw _ (List.mem_of_getElem? (i := 3) rfl)) (by decide) rfl rfl ?_
  show Wp none l Z "com/example/keyword_to_concept/keywordtoconcept/evaluation/RankedTopic" "<init>" prog_7_method_1_code 3 none ({ frames := 1, cells := 0, slots := 0, locals := 12 } : Room) ((o, oI "com/example/keyword_to_concept/keywordtoconcept/evaluation/RankedTopic" sg_1 [(.ref x), (.int (0 : Int32))]) :: F) 0 0 9 #[.val (.ref o), .val (.ref x), .val (.int n)] [] (Q_c_ini o x n F)
  refine wp_aload_n D_prog_7_m1_9 rfl rfl ?_
  refine wp_iload_n D_prog_7_m1_10 rfl ?_
  refine wp_putfield (i := 0) (fi := 1) (ty := .int) D_prog_7_m1_11 (hw _ (List.mem_of_getElem? (i := 13) rfl)) rfl rfl rfl (Or.inr ⟨(hw _ (List.mem_of_getElem? (i := 14) rfl)), rfl, rfl⟩) (hw _ (List.mem_of_getElem? (i := 3) rfl)) (by decide) rfl rfl ?_
  show Wp none l Z "com/example/keyword_to_concept/keywordtoconcept/evaluation/RankedTopic" "<init>" prog_7_method_1_code 3 none ({ frames := 1, cells := 0, slots := 0, locals := 12 } : Room) ((o, oI "com/example/keyword_to_concept/keywordtoconcept/evaluation/RankedTopic" sg_1 [(.ref x), (.int n)]) :: F) 0 0 14 #[.val (.ref o), .val (.ref x), .val (.int n)] [] (Q_c_ini o x n F)
  refine wp_return D_prog_7_m1_14 rfl (by decide) (by decide) ?_
  exact ⟨rfl, rfl⟩
theorem pn_2 : plainFor (⟨"com/example/keyword_to_concept/keywordtoconcept/evaluation/RankedTopic", "averagePrecision", "()D"⟩ : MethodName) = true := by first | exact plainFor_of_name (by first | (simp [plainName, overriddenIn]; done) | decide +kernel) | decide +kernel
theorem D_prog_7_m5_0 : Dc prog_7_method_5_code 0 (.dconst 0) 1 1 := ⟨by decide +kernel, rfl⟩
theorem D_prog_7_m5_1 : Dc prog_7_method_5_code 1 (.dstore_n 1) 1 2 := ⟨by decide +kernel, rfl⟩
theorem D_prog_7_m5_2 : Dc prog_7_method_5_code 2 (.iconst 0) 1 3 := ⟨by decide +kernel, rfl⟩
theorem D_prog_7_m5_3 : Dc prog_7_method_5_code 3 (.istore_n 3) 1 4 := ⟨by decide +kernel, rfl⟩
theorem D_prog_7_m5_4 : Dc prog_7_method_5_code 4 (.iconst 0) 1 5 := ⟨by decide +kernel, rfl⟩
theorem D_prog_7_m5_5 : Dc prog_7_method_5_code 5 (.istore 4) 2 7 := ⟨by decide +kernel, rfl⟩
theorem D_prog_7_m5_7 : Dc prog_7_method_5_code 7 (.iload 4) 2 9 := ⟨by decide +kernel, rfl⟩
theorem D_prog_7_m5_9 : Dc prog_7_method_5_code 9 (.aload_n 0) 1 10 := ⟨by decide +kernel, rfl⟩
theorem D_prog_7_m5_10 : Dc prog_7_method_5_code 10 (.getfield 7) 3 13 := ⟨by decide +kernel, rfl⟩
theorem D_prog_7_m5_13 : Dc prog_7_method_5_code 13 (.arraylength) 1 14 := ⟨by decide +kernel, rfl⟩
theorem D_prog_7_m5_14 : Dc prog_7_method_5_code 14 (.if_icmp .ge 33) 3 17 := ⟨by decide +kernel, rfl⟩
theorem D_prog_7_m5_17 : Dc prog_7_method_5_code 17 (.aload_n 0) 1 18 := ⟨by decide +kernel, rfl⟩
theorem D_prog_7_m5_18 : Dc prog_7_method_5_code 18 (.getfield 7) 3 21 := ⟨by decide +kernel, rfl⟩
theorem D_prog_7_m5_21 : Dc prog_7_method_5_code 21 (.iload 4) 2 23 := ⟨by decide +kernel, rfl⟩
theorem D_prog_7_m5_23 : Dc prog_7_method_5_code 23 (.baload) 1 24 := ⟨by decide +kernel, rfl⟩
theorem D_prog_7_m5_24 : Dc prog_7_method_5_code 24 (.ifCond .eq 17) 3 27 := ⟨by decide +kernel, rfl⟩
theorem D_prog_7_m5_27 : Dc prog_7_method_5_code 27 (.iinc 3 1) 3 30 := ⟨by decide +kernel, rfl⟩
theorem D_prog_7_m5_30 : Dc prog_7_method_5_code 30 (.dload_n 1) 1 31 := ⟨by decide +kernel, rfl⟩
theorem D_prog_7_m5_31 : Dc prog_7_method_5_code 31 (.iload_n 3) 1 32 := ⟨by decide +kernel, rfl⟩
theorem D_prog_7_m5_32 : Dc prog_7_method_5_code 32 (.i2d) 1 33 := ⟨by decide +kernel, rfl⟩
theorem D_prog_7_m5_33 : Dc prog_7_method_5_code 33 (.iload 4) 2 35 := ⟨by decide +kernel, rfl⟩
theorem D_prog_7_m5_35 : Dc prog_7_method_5_code 35 (.iconst 1) 1 36 := ⟨by decide +kernel, rfl⟩
theorem D_prog_7_m5_36 : Dc prog_7_method_5_code 36 (.iadd) 1 37 := ⟨by decide +kernel, rfl⟩
theorem D_prog_7_m5_37 : Dc prog_7_method_5_code 37 (.i2d) 1 38 := ⟨by decide +kernel, rfl⟩
theorem D_prog_7_m5_38 : Dc prog_7_method_5_code 38 (.ddiv) 1 39 := ⟨by decide +kernel, rfl⟩
theorem D_prog_7_m5_39 : Dc prog_7_method_5_code 39 (.dadd) 1 40 := ⟨by decide +kernel, rfl⟩
theorem D_prog_7_m5_40 : Dc prog_7_method_5_code 40 (.dstore_n 1) 1 41 := ⟨by decide +kernel, rfl⟩
theorem D_prog_7_m5_41 : Dc prog_7_method_5_code 41 (.iinc 4 1) 3 44 := ⟨by decide +kernel, rfl⟩
theorem D_prog_7_m5_44 : Dc prog_7_method_5_code 44 (.goto (-37)) 3 47 := ⟨by decide +kernel, rfl⟩
theorem D_prog_7_m5_47 : Dc prog_7_method_5_code 47 (.aload_n 0) 1 48 := ⟨by decide +kernel, rfl⟩
theorem D_prog_7_m5_48 : Dc prog_7_method_5_code 48 (.getfield 13) 3 51 := ⟨by decide +kernel, rfl⟩
theorem D_prog_7_m5_51 : Dc prog_7_method_5_code 51 (.ifCond .ne 7) 3 54 := ⟨by decide +kernel, rfl⟩
theorem D_prog_7_m5_54 : Dc prog_7_method_5_code 54 (.dconst 0) 1 55 := ⟨by decide +kernel, rfl⟩
theorem D_prog_7_m5_55 : Dc prog_7_method_5_code 55 (.goto 10) 3 58 := ⟨by decide +kernel, rfl⟩
theorem D_prog_7_m5_58 : Dc prog_7_method_5_code 58 (.dload_n 1) 1 59 := ⟨by decide +kernel, rfl⟩
theorem D_prog_7_m5_59 : Dc prog_7_method_5_code 59 (.aload_n 0) 1 60 := ⟨by decide +kernel, rfl⟩
theorem D_prog_7_m5_60 : Dc prog_7_method_5_code 60 (.getfield 13) 3 63 := ⟨by decide +kernel, rfl⟩
theorem D_prog_7_m5_63 : Dc prog_7_method_5_code 63 (.i2d) 1 64 := ⟨by decide +kernel, rfl⟩
theorem D_prog_7_m5_64 : Dc prog_7_method_5_code 64 (.ddiv) 1 65 := ⟨by decide +kernel, rfl⟩
theorem D_prog_7_m5_65 : Dc prog_7_method_5_code 65 (.dreturn) 1 66 := ⟨by decide +kernel, rfl⟩
def Q_c_ap_e (o x : Addr) (n : Int32) (F : OH) : Option Value → OH → Prop := fun v H' => v = some (.double (if n = 0 then 0 else FP.ddiv (0 : UInt64) (FP.i2d n))) ∧ H' = ((o, oI "com/example/keyword_to_concept/keywordtoconcept/evaluation/RankedTopic" sg_1 [(.ref x), (.int n)]) :: (x, oA .boolean []) :: F)
set_option maxRecDepth 65536 in
set_option maxHeartbeats 40000000 in
theorem c_ap_e (l : Launch) (Z : State) (a0 : Array Value) (hw : ∀ d ∈ tables_1, d.before a0 Z = true) (o x : Addr) (n : Int32) (F : OH)  :
    Met l Z (⟨"com/example/keyword_to_concept/keywordtoconcept/evaluation/RankedTopic", "averagePrecision", "()D"⟩ : MethodName) prog_7_method_5_code 5 (some .double) ({ frames := 0, cells := 0, slots := 0, locals := 0 } : Room) [(.ref o)] ((o, oI "com/example/keyword_to_concept/keywordtoconcept/evaluation/RankedTopic" sg_1 [(.ref x), (.int n)]) :: (x, oA .boolean []) :: F) (Q_c_ap_e o x n F) := by
  refine Met.of_wp (Ls := #[.val (.ref o), .unset, .unset, .unset, .unset]) pn_2 (fun m => by first | rfl | (simp [entryFrame, mkF, argsToLocals, Value.category]; done)) ?_
  show Wp none l Z "com/example/keyword_to_concept/keywordtoconcept/evaluation/RankedTopic" "averagePrecision" prog_7_method_5_code 5 (some .double) ({ frames := 0, cells := 0, slots := 0, locals := 0 } : Room) ((o, oI "com/example/keyword_to_concept/keywordtoconcept/evaluation/RankedTopic" sg_1 [(.ref x), (.int n)]) :: (x, oA .boolean []) :: F) 0 0 0 #[.val (.ref o), .unset, .unset, .unset, .unset] [] (Q_c_ap_e o x n F)
  refine wp_dconst0 0 D_prog_7_m5_0 (by decide +kernel) ?_
  refine wp_dstore_n #[.val (.ref o), .val (.double (0 : UInt64)), .second, .unset, .unset] D_prog_7_m5_1 rfl ?_
  refine wp_iconst 0 D_prog_7_m5_2 (by decide) ?_
  refine wp_istore_n #[.val (.ref o), .val (.double (0 : UInt64)), .second, .val (.int (0 : Int32)), .unset] D_prog_7_m5_3 rfl ?_
  refine wp_iconst 0 D_prog_7_m5_4 (by decide) ?_
  refine wp_istore #[.val (.ref o), .val (.double (0 : UInt64)), .second, .val (.int (0 : Int32)), .val (.int (0 : Int32))] D_prog_7_m5_5 rfl ?_
  refine wp_iload D_prog_7_m5_7 rfl ?_
  refine wp_aload_n D_prog_7_m5_9 rfl rfl ?_
  refine wp_getfield D_prog_7_m5_10 (hw _ (List.mem_of_getElem? (i := 11) rfl)) (fld_new (i := 0) (fi := 0) rfl rfl rfl) ?_
  refine wp_lengthI (i := 1) (0 : Int32) D_prog_7_m5_13 rfl rfl ?_
  refine wp_icmp_ge D_prog_7_m5_14 (pc'' := 47) ⟨by decide, by decide⟩ (fun h1 => ?_) (fun h1 => by exact absurd h1 (by decide))
  refine wp_aload_n D_prog_7_m5_47 rfl rfl ?_
  refine wp_getfield D_prog_7_m5_48 (hw _ (List.mem_of_getElem? (i := 13) rfl)) (fld_new (i := 0) (fi := 1) rfl rfl rfl) ?_
  refine wp_if_ne D_prog_7_m5_51 (pc'' := 58) ⟨by decide, by decide⟩ (fun h2 => ?_) (fun h2 => ?_)
  · skip
    refine wp_dload_n D_prog_7_m5_58 rfl ?_
    refine wp_aload_n D_prog_7_m5_59 rfl rfl ?_
    refine wp_getfield D_prog_7_m5_60 (hw _ (List.mem_of_getElem? (i := 13) rfl)) (fld_new (i := 0) (fi := 1) rfl rfl rfl) ?_
    refine wp_i2d (FP.i2d n) D_prog_7_m5_63 rfl ?_
    refine wp_ddiv (FP.ddiv (0 : UInt64) (FP.i2d n)) D_prog_7_m5_64 (Jvm.Free.Fl.ddiv_out (by unfold Jvm.Free.Fl.NoNaN64; decide +kernel) (Jvm.Free.Fl.i2d_fin _) (Jvm.Free.Fl.i2d_nz h2)) rfl ?_
    refine wp_dreturn D_prog_7_m5_65 rfl (by decide) (by decide) ?_
    exact ⟨by rw [if_neg h2], rfl⟩
  · skip
    refine wp_dconst0 0 D_prog_7_m5_54 (by decide +kernel) ?_
    refine wp_goto D_prog_7_m5_55 (pc'' := 65) ⟨by decide, by decide⟩ ?_
    refine wp_dreturn D_prog_7_m5_65 rfl (by decide) (by decide) ?_
    exact ⟨by rw [if_pos h2], rfl⟩
def Q_c_ap_0 (o x : Addr) (n : Int32) (F : OH) : Option Value → OH → Prop := fun v H' => v = some (.double (if n = 0 then 0 else FP.ddiv (0 : UInt64) (FP.i2d n))) ∧ H' = ((o, oI "com/example/keyword_to_concept/keywordtoconcept/evaluation/RankedTopic" sg_1 [(.ref x), (.int n)]) :: (x, oA .boolean [(0 : Int32)]) :: F)
set_option maxRecDepth 65536 in
set_option maxHeartbeats 40000000 in
theorem c_ap_0 (l : Launch) (Z : State) (a0 : Array Value) (hw : ∀ d ∈ tables_1, d.before a0 Z = true) (o x : Addr) (n : Int32) (F : OH)  :
    Met l Z (⟨"com/example/keyword_to_concept/keywordtoconcept/evaluation/RankedTopic", "averagePrecision", "()D"⟩ : MethodName) prog_7_method_5_code 5 (some .double) ({ frames := 0, cells := 0, slots := 0, locals := 0 } : Room) [(.ref o)] ((o, oI "com/example/keyword_to_concept/keywordtoconcept/evaluation/RankedTopic" sg_1 [(.ref x), (.int n)]) :: (x, oA .boolean [(0 : Int32)]) :: F) (Q_c_ap_0 o x n F) := by
  refine Met.of_wp (Ls := #[.val (.ref o), .unset, .unset, .unset, .unset]) pn_2 (fun m => by first | rfl | (simp [entryFrame, mkF, argsToLocals, Value.category]; done)) ?_
  show Wp none l Z "com/example/keyword_to_concept/keywordtoconcept/evaluation/RankedTopic" "averagePrecision" prog_7_method_5_code 5 (some .double) ({ frames := 0, cells := 0, slots := 0, locals := 0 } : Room) ((o, oI "com/example/keyword_to_concept/keywordtoconcept/evaluation/RankedTopic" sg_1 [(.ref x), (.int n)]) :: (x, oA .boolean [(0 : Int32)]) :: F) 0 0 0 #[.val (.ref o), .unset, .unset, .unset, .unset] [] (Q_c_ap_0 o x n F)
  refine wp_dconst0 0 D_prog_7_m5_0 (by decide +kernel) ?_
  refine wp_dstore_n #[.val (.ref o), .val (.double (0 : UInt64)), .second, .unset, .unset] D_prog_7_m5_1 rfl ?_
  refine wp_iconst 0 D_prog_7_m5_2 (by decide) ?_
  refine wp_istore_n #[.val (.ref o), .val (.double (0 : UInt64)), .second, .val (.int (0 : Int32)), .unset] D_prog_7_m5_3 rfl ?_
  refine wp_iconst 0 D_prog_7_m5_4 (by decide) ?_
  refine wp_istore #[.val (.ref o), .val (.double (0 : UInt64)), .second, .val (.int (0 : Int32)), .val (.int (0 : Int32))] D_prog_7_m5_5 rfl ?_
  refine wp_iload D_prog_7_m5_7 rfl ?_
  refine wp_aload_n D_prog_7_m5_9 rfl rfl ?_
  refine wp_getfield D_prog_7_m5_10 (hw _ (List.mem_of_getElem? (i := 11) rfl)) (fld_new (i := 0) (fi := 0) rfl rfl rfl) ?_
  refine wp_lengthI (i := 1) (1 : Int32) D_prog_7_m5_13 rfl rfl ?_
  refine wp_icmp_ge D_prog_7_m5_14 (pc'' := 47) ⟨by decide, by decide⟩ (fun h1 => by exact absurd h1 (by decide)) (fun h1 => ?_)
  refine wp_aload_n D_prog_7_m5_17 rfl rfl ?_
  refine wp_getfield D_prog_7_m5_18 (hw _ (List.mem_of_getElem? (i := 11) rfl)) (fld_new (i := 0) (fi := 0) rfl rfl rfl) ?_
  refine wp_iload D_prog_7_m5_21 rfl ?_
  refine wp_zaload (i := 1) (0) D_prog_7_m5_23 rfl (by decide) (by decide) rfl ?_
  refine wp_if_eq D_prog_7_m5_24 (pc'' := 41) ⟨by decide, by decide⟩ (fun h2 => ?_) (fun h2 => by exact absurd h2 (by decide))
  refine wp_iinc 1 #[.val (.ref o), .val (.double (0 : UInt64)), .second, .val (.int (0 : Int32)), .val (.int (1 : Int32))] D_prog_7_m5_41 rfl rfl (by rw [show (0 : Int32) + (1 : Int32) = (1 : Int32) from by decide]; rfl) ?_
  refine wp_goto D_prog_7_m5_44 (pc'' := 7) ⟨by decide, by decide⟩ ?_
  refine wp_iload D_prog_7_m5_7 rfl ?_
  refine wp_aload_n D_prog_7_m5_9 rfl rfl ?_
  refine wp_getfield D_prog_7_m5_10 (hw _ (List.mem_of_getElem? (i := 11) rfl)) (fld_new (i := 0) (fi := 0) rfl rfl rfl) ?_
  refine wp_lengthI (i := 1) (1 : Int32) D_prog_7_m5_13 rfl rfl ?_
  refine wp_icmp_ge D_prog_7_m5_14 (pc'' := 47) ⟨by decide, by decide⟩ (fun h3 => ?_) (fun h3 => by exact absurd h3 (by decide))
  refine wp_aload_n D_prog_7_m5_47 rfl rfl ?_
  refine wp_getfield D_prog_7_m5_48 (hw _ (List.mem_of_getElem? (i := 13) rfl)) (fld_new (i := 0) (fi := 1) rfl rfl rfl) ?_
  refine wp_if_ne D_prog_7_m5_51 (pc'' := 58) ⟨by decide, by decide⟩ (fun h4 => ?_) (fun h4 => ?_)
  · skip
    refine wp_dload_n D_prog_7_m5_58 rfl ?_
    refine wp_aload_n D_prog_7_m5_59 rfl rfl ?_
    refine wp_getfield D_prog_7_m5_60 (hw _ (List.mem_of_getElem? (i := 13) rfl)) (fld_new (i := 0) (fi := 1) rfl rfl rfl) ?_
    refine wp_i2d (FP.i2d n) D_prog_7_m5_63 rfl ?_
    refine wp_ddiv (FP.ddiv (0 : UInt64) (FP.i2d n)) D_prog_7_m5_64 (Jvm.Free.Fl.ddiv_out (by unfold Jvm.Free.Fl.NoNaN64; decide +kernel) (Jvm.Free.Fl.i2d_fin _) (Jvm.Free.Fl.i2d_nz h4)) rfl ?_
    refine wp_dreturn D_prog_7_m5_65 rfl (by decide) (by decide) ?_
    exact ⟨by rw [if_neg h4], rfl⟩
  · skip
    refine wp_dconst0 0 D_prog_7_m5_54 (by decide +kernel) ?_
    refine wp_goto D_prog_7_m5_55 (pc'' := 65) ⟨by decide, by decide⟩ ?_
    refine wp_dreturn D_prog_7_m5_65 rfl (by decide) (by decide) ?_
    exact ⟨by rw [if_pos h4], rfl⟩
def Q_c_ap_1 (o x : Addr) (n : Int32) (F : OH) : Option Value → OH → Prop := fun v H' => v = some (.double (if n = 0 then 0 else FP.ddiv (4607182418800017408 : UInt64) (FP.i2d n))) ∧ H' = ((o, oI "com/example/keyword_to_concept/keywordtoconcept/evaluation/RankedTopic" sg_1 [(.ref x), (.int n)]) :: (x, oA .boolean [(1 : Int32)]) :: F)
set_option maxRecDepth 65536 in
set_option maxHeartbeats 40000000 in
theorem c_ap_1 (l : Launch) (Z : State) (a0 : Array Value) (hw : ∀ d ∈ tables_1, d.before a0 Z = true) (o x : Addr) (n : Int32) (F : OH)  :
    Met l Z (⟨"com/example/keyword_to_concept/keywordtoconcept/evaluation/RankedTopic", "averagePrecision", "()D"⟩ : MethodName) prog_7_method_5_code 5 (some .double) ({ frames := 0, cells := 0, slots := 0, locals := 0 } : Room) [(.ref o)] ((o, oI "com/example/keyword_to_concept/keywordtoconcept/evaluation/RankedTopic" sg_1 [(.ref x), (.int n)]) :: (x, oA .boolean [(1 : Int32)]) :: F) (Q_c_ap_1 o x n F) := by
  refine Met.of_wp (Ls := #[.val (.ref o), .unset, .unset, .unset, .unset]) pn_2 (fun m => by first | rfl | (simp [entryFrame, mkF, argsToLocals, Value.category]; done)) ?_
  show Wp none l Z "com/example/keyword_to_concept/keywordtoconcept/evaluation/RankedTopic" "averagePrecision" prog_7_method_5_code 5 (some .double) ({ frames := 0, cells := 0, slots := 0, locals := 0 } : Room) ((o, oI "com/example/keyword_to_concept/keywordtoconcept/evaluation/RankedTopic" sg_1 [(.ref x), (.int n)]) :: (x, oA .boolean [(1 : Int32)]) :: F) 0 0 0 #[.val (.ref o), .unset, .unset, .unset, .unset] [] (Q_c_ap_1 o x n F)
  refine wp_dconst0 0 D_prog_7_m5_0 (by decide +kernel) ?_
  refine wp_dstore_n #[.val (.ref o), .val (.double (0 : UInt64)), .second, .unset, .unset] D_prog_7_m5_1 rfl ?_
  refine wp_iconst 0 D_prog_7_m5_2 (by decide) ?_
  refine wp_istore_n #[.val (.ref o), .val (.double (0 : UInt64)), .second, .val (.int (0 : Int32)), .unset] D_prog_7_m5_3 rfl ?_
  refine wp_iconst 0 D_prog_7_m5_4 (by decide) ?_
  refine wp_istore #[.val (.ref o), .val (.double (0 : UInt64)), .second, .val (.int (0 : Int32)), .val (.int (0 : Int32))] D_prog_7_m5_5 rfl ?_
  refine wp_iload D_prog_7_m5_7 rfl ?_
  refine wp_aload_n D_prog_7_m5_9 rfl rfl ?_
  refine wp_getfield D_prog_7_m5_10 (hw _ (List.mem_of_getElem? (i := 11) rfl)) (fld_new (i := 0) (fi := 0) rfl rfl rfl) ?_
  refine wp_lengthI (i := 1) (1 : Int32) D_prog_7_m5_13 rfl rfl ?_
  refine wp_icmp_ge D_prog_7_m5_14 (pc'' := 47) ⟨by decide, by decide⟩ (fun h1 => by exact absurd h1 (by decide)) (fun h1 => ?_)
  refine wp_aload_n D_prog_7_m5_17 rfl rfl ?_
  refine wp_getfield D_prog_7_m5_18 (hw _ (List.mem_of_getElem? (i := 11) rfl)) (fld_new (i := 0) (fi := 0) rfl rfl rfl) ?_
  refine wp_iload D_prog_7_m5_21 rfl ?_
  refine wp_zaload (i := 1) (0) D_prog_7_m5_23 rfl (by decide) (by decide) rfl ?_
  refine wp_if_eq D_prog_7_m5_24 (pc'' := 41) ⟨by decide, by decide⟩ (fun h2 => by exact absurd h2 (by decide)) (fun h2 => ?_)
  refine wp_iinc 1 #[.val (.ref o), .val (.double (0 : UInt64)), .second, .val (.int (1 : Int32)), .val (.int (0 : Int32))] D_prog_7_m5_27 rfl rfl (by rw [show (0 : Int32) + (1 : Int32) = (1 : Int32) from by decide]; rfl) ?_
  refine wp_dload_n D_prog_7_m5_30 rfl ?_
  refine wp_iload_n D_prog_7_m5_31 rfl ?_
  refine wp_i2d (4607182418800017408 : UInt64) D_prog_7_m5_32 (by decide +kernel) ?_
  refine wp_iload D_prog_7_m5_33 rfl ?_
  refine wp_iconst 1 D_prog_7_m5_35 (by decide) ?_
  refine wp_iadd D_prog_7_m5_36 ?_
  rw [show ((0 : Int32) + (1 : Int32)) = (1 : Int32) from by decide]
  refine wp_i2d (4607182418800017408 : UInt64) D_prog_7_m5_37 (by decide +kernel) ?_
  refine wp_ddiv (4607182418800017408 : UInt64) D_prog_7_m5_38 (by unfold Jvm.Free.Fl.NoNaN64; decide +kernel) (by decide +kernel) ?_
  refine wp_dadd (4607182418800017408 : UInt64) D_prog_7_m5_39 (by unfold Jvm.Free.Fl.NoNaN64; decide +kernel) (by decide +kernel) ?_
  refine wp_dstore_n #[.val (.ref o), .val (.double (4607182418800017408 : UInt64)), .second, .val (.int (1 : Int32)), .val (.int (0 : Int32))] D_prog_7_m5_40 rfl ?_
  refine wp_iinc 1 #[.val (.ref o), .val (.double (4607182418800017408 : UInt64)), .second, .val (.int (1 : Int32)), .val (.int (1 : Int32))] D_prog_7_m5_41 rfl rfl (by rw [show (0 : Int32) + (1 : Int32) = (1 : Int32) from by decide]; rfl) ?_
  refine wp_goto D_prog_7_m5_44 (pc'' := 7) ⟨by decide, by decide⟩ ?_
  refine wp_iload D_prog_7_m5_7 rfl ?_
  refine wp_aload_n D_prog_7_m5_9 rfl rfl ?_
  refine wp_getfield D_prog_7_m5_10 (hw _ (List.mem_of_getElem? (i := 11) rfl)) (fld_new (i := 0) (fi := 0) rfl rfl rfl) ?_
  refine wp_lengthI (i := 1) (1 : Int32) D_prog_7_m5_13 rfl rfl ?_
  refine wp_icmp_ge D_prog_7_m5_14 (pc'' := 47) ⟨by decide, by decide⟩ (fun h3 => ?_) (fun h3 => by exact absurd h3 (by decide))
  refine wp_aload_n D_prog_7_m5_47 rfl rfl ?_
  refine wp_getfield D_prog_7_m5_48 (hw _ (List.mem_of_getElem? (i := 13) rfl)) (fld_new (i := 0) (fi := 1) rfl rfl rfl) ?_
  refine wp_if_ne D_prog_7_m5_51 (pc'' := 58) ⟨by decide, by decide⟩ (fun h4 => ?_) (fun h4 => ?_)
  · skip
    refine wp_dload_n D_prog_7_m5_58 rfl ?_
    refine wp_aload_n D_prog_7_m5_59 rfl rfl ?_
    refine wp_getfield D_prog_7_m5_60 (hw _ (List.mem_of_getElem? (i := 13) rfl)) (fld_new (i := 0) (fi := 1) rfl rfl rfl) ?_
    refine wp_i2d (FP.i2d n) D_prog_7_m5_63 rfl ?_
    refine wp_ddiv (FP.ddiv (4607182418800017408 : UInt64) (FP.i2d n)) D_prog_7_m5_64 (Jvm.Free.Fl.ddiv_out (by unfold Jvm.Free.Fl.NoNaN64; decide +kernel) (Jvm.Free.Fl.i2d_fin _) (Jvm.Free.Fl.i2d_nz h4)) rfl ?_
    refine wp_dreturn D_prog_7_m5_65 rfl (by decide) (by decide) ?_
    exact ⟨by rw [if_neg h4], rfl⟩
  · skip
    refine wp_dconst0 0 D_prog_7_m5_54 (by decide +kernel) ?_
    refine wp_goto D_prog_7_m5_55 (pc'' := 65) ⟨by decide, by decide⟩ ?_
    refine wp_dreturn D_prog_7_m5_65 rfl (by decide) (by decide) ?_
    exact ⟨by rw [if_pos h4], rfl⟩
def Q_c_ap_00 (o x : Addr) (n : Int32) (F : OH) : Option Value → OH → Prop := fun v H' => v = some (.double (if n = 0 then 0 else FP.ddiv (0 : UInt64) (FP.i2d n))) ∧ H' = ((o, oI "com/example/keyword_to_concept/keywordtoconcept/evaluation/RankedTopic" sg_1 [(.ref x), (.int n)]) :: (x, oA .boolean [(0 : Int32), (0 : Int32)]) :: F)
set_option maxRecDepth 65536 in
set_option maxHeartbeats 40000000 in
theorem c_ap_00 (l : Launch) (Z : State) (a0 : Array Value) (hw : ∀ d ∈ tables_1, d.before a0 Z = true) (o x : Addr) (n : Int32) (F : OH)  :
    Met l Z (⟨"com/example/keyword_to_concept/keywordtoconcept/evaluation/RankedTopic", "averagePrecision", "()D"⟩ : MethodName) prog_7_method_5_code 5 (some .double) ({ frames := 0, cells := 0, slots := 0, locals := 0 } : Room) [(.ref o)] ((o, oI "com/example/keyword_to_concept/keywordtoconcept/evaluation/RankedTopic" sg_1 [(.ref x), (.int n)]) :: (x, oA .boolean [(0 : Int32), (0 : Int32)]) :: F) (Q_c_ap_00 o x n F) := by
  refine Met.of_wp (Ls := #[.val (.ref o), .unset, .unset, .unset, .unset]) pn_2 (fun m => by first | rfl | (simp [entryFrame, mkF, argsToLocals, Value.category]; done)) ?_
  show Wp none l Z "com/example/keyword_to_concept/keywordtoconcept/evaluation/RankedTopic" "averagePrecision" prog_7_method_5_code 5 (some .double) ({ frames := 0, cells := 0, slots := 0, locals := 0 } : Room) ((o, oI "com/example/keyword_to_concept/keywordtoconcept/evaluation/RankedTopic" sg_1 [(.ref x), (.int n)]) :: (x, oA .boolean [(0 : Int32), (0 : Int32)]) :: F) 0 0 0 #[.val (.ref o), .unset, .unset, .unset, .unset] [] (Q_c_ap_00 o x n F)
  refine wp_dconst0 0 D_prog_7_m5_0 (by decide +kernel) ?_
  refine wp_dstore_n #[.val (.ref o), .val (.double (0 : UInt64)), .second, .unset, .unset] D_prog_7_m5_1 rfl ?_
  refine wp_iconst 0 D_prog_7_m5_2 (by decide) ?_
  refine wp_istore_n #[.val (.ref o), .val (.double (0 : UInt64)), .second, .val (.int (0 : Int32)), .unset] D_prog_7_m5_3 rfl ?_
  refine wp_iconst 0 D_prog_7_m5_4 (by decide) ?_
  refine wp_istore #[.val (.ref o), .val (.double (0 : UInt64)), .second, .val (.int (0 : Int32)), .val (.int (0 : Int32))] D_prog_7_m5_5 rfl ?_
  refine wp_iload D_prog_7_m5_7 rfl ?_
  refine wp_aload_n D_prog_7_m5_9 rfl rfl ?_
  refine wp_getfield D_prog_7_m5_10 (hw _ (List.mem_of_getElem? (i := 11) rfl)) (fld_new (i := 0) (fi := 0) rfl rfl rfl) ?_
  refine wp_lengthI (i := 1) (2 : Int32) D_prog_7_m5_13 rfl rfl ?_
  refine wp_icmp_ge D_prog_7_m5_14 (pc'' := 47) ⟨by decide, by decide⟩ (fun h1 => by exact absurd h1 (by decide)) (fun h1 => ?_)
  refine wp_aload_n D_prog_7_m5_17 rfl rfl ?_
  refine wp_getfield D_prog_7_m5_18 (hw _ (List.mem_of_getElem? (i := 11) rfl)) (fld_new (i := 0) (fi := 0) rfl rfl rfl) ?_
  refine wp_iload D_prog_7_m5_21 rfl ?_
  refine wp_zaload (i := 1) (0) D_prog_7_m5_23 rfl (by decide) (by decide) rfl ?_
  refine wp_if_eq D_prog_7_m5_24 (pc'' := 41) ⟨by decide, by decide⟩ (fun h2 => ?_) (fun h2 => by exact absurd h2 (by decide))
  refine wp_iinc 1 #[.val (.ref o), .val (.double (0 : UInt64)), .second, .val (.int (0 : Int32)), .val (.int (1 : Int32))] D_prog_7_m5_41 rfl rfl (by rw [show (0 : Int32) + (1 : Int32) = (1 : Int32) from by decide]; rfl) ?_
  refine wp_goto D_prog_7_m5_44 (pc'' := 7) ⟨by decide, by decide⟩ ?_
  refine wp_iload D_prog_7_m5_7 rfl ?_
  refine wp_aload_n D_prog_7_m5_9 rfl rfl ?_
  refine wp_getfield D_prog_7_m5_10 (hw _ (List.mem_of_getElem? (i := 11) rfl)) (fld_new (i := 0) (fi := 0) rfl rfl rfl) ?_
  refine wp_lengthI (i := 1) (2 : Int32) D_prog_7_m5_13 rfl rfl ?_
  refine wp_icmp_ge D_prog_7_m5_14 (pc'' := 47) ⟨by decide, by decide⟩ (fun h3 => by exact absurd h3 (by decide)) (fun h3 => ?_)
  refine wp_aload_n D_prog_7_m5_17 rfl rfl ?_
  refine wp_getfield D_prog_7_m5_18 (hw _ (List.mem_of_getElem? (i := 11) rfl)) (fld_new (i := 0) (fi := 0) rfl rfl rfl) ?_
  refine wp_iload D_prog_7_m5_21 rfl ?_
  refine wp_zaload (i := 1) (1) D_prog_7_m5_23 rfl (by decide) (by decide) rfl ?_
  refine wp_if_eq D_prog_7_m5_24 (pc'' := 41) ⟨by decide, by decide⟩ (fun h4 => ?_) (fun h4 => by exact absurd h4 (by decide))
  refine wp_iinc 1 #[.val (.ref o), .val (.double (0 : UInt64)), .second, .val (.int (0 : Int32)), .val (.int (2 : Int32))] D_prog_7_m5_41 rfl rfl (by rw [show (1 : Int32) + (1 : Int32) = (2 : Int32) from by decide]; rfl) ?_
  refine wp_goto D_prog_7_m5_44 (pc'' := 7) ⟨by decide, by decide⟩ ?_
  refine wp_iload D_prog_7_m5_7 rfl ?_
  refine wp_aload_n D_prog_7_m5_9 rfl rfl ?_
  refine wp_getfield D_prog_7_m5_10 (hw _ (List.mem_of_getElem? (i := 11) rfl)) (fld_new (i := 0) (fi := 0) rfl rfl rfl) ?_
  refine wp_lengthI (i := 1) (2 : Int32) D_prog_7_m5_13 rfl rfl ?_
  refine wp_icmp_ge D_prog_7_m5_14 (pc'' := 47) ⟨by decide, by decide⟩ (fun h5 => ?_) (fun h5 => by exact absurd h5 (by decide))
  refine wp_aload_n D_prog_7_m5_47 rfl rfl ?_
  refine wp_getfield D_prog_7_m5_48 (hw _ (List.mem_of_getElem? (i := 13) rfl)) (fld_new (i := 0) (fi := 1) rfl rfl rfl) ?_
  refine wp_if_ne D_prog_7_m5_51 (pc'' := 58) ⟨by decide, by decide⟩ (fun h6 => ?_) (fun h6 => ?_)
  · skip
    refine wp_dload_n D_prog_7_m5_58 rfl ?_
    refine wp_aload_n D_prog_7_m5_59 rfl rfl ?_
    refine wp_getfield D_prog_7_m5_60 (hw _ (List.mem_of_getElem? (i := 13) rfl)) (fld_new (i := 0) (fi := 1) rfl rfl rfl) ?_
    refine wp_i2d (FP.i2d n) D_prog_7_m5_63 rfl ?_
    refine wp_ddiv (FP.ddiv (0 : UInt64) (FP.i2d n)) D_prog_7_m5_64 (Jvm.Free.Fl.ddiv_out (by unfold Jvm.Free.Fl.NoNaN64; decide +kernel) (Jvm.Free.Fl.i2d_fin _) (Jvm.Free.Fl.i2d_nz h6)) rfl ?_
    refine wp_dreturn D_prog_7_m5_65 rfl (by decide) (by decide) ?_
    exact ⟨by rw [if_neg h6], rfl⟩
  · skip
    refine wp_dconst0 0 D_prog_7_m5_54 (by decide +kernel) ?_
    refine wp_goto D_prog_7_m5_55 (pc'' := 65) ⟨by decide, by decide⟩ ?_
    refine wp_dreturn D_prog_7_m5_65 rfl (by decide) (by decide) ?_
    exact ⟨by rw [if_pos h6], rfl⟩
def Q_c_ap_01 (o x : Addr) (n : Int32) (F : OH) : Option Value → OH → Prop := fun v H' => v = some (.double (if n = 0 then 0 else FP.ddiv (4602678819172646912 : UInt64) (FP.i2d n))) ∧ H' = ((o, oI "com/example/keyword_to_concept/keywordtoconcept/evaluation/RankedTopic" sg_1 [(.ref x), (.int n)]) :: (x, oA .boolean [(0 : Int32), (1 : Int32)]) :: F)
set_option maxRecDepth 65536 in
set_option maxHeartbeats 40000000 in
theorem c_ap_01 (l : Launch) (Z : State) (a0 : Array Value) (hw : ∀ d ∈ tables_1, d.before a0 Z = true) (o x : Addr) (n : Int32) (F : OH)  :
    Met l Z (⟨"com/example/keyword_to_concept/keywordtoconcept/evaluation/RankedTopic", "averagePrecision", "()D"⟩ : MethodName) prog_7_method_5_code 5 (some .double) ({ frames := 0, cells := 0, slots := 0, locals := 0 } : Room) [(.ref o)] ((o, oI "com/example/keyword_to_concept/keywordtoconcept/evaluation/RankedTopic" sg_1 [(.ref x), (.int n)]) :: (x, oA .boolean [(0 : Int32), (1 : Int32)]) :: F) (Q_c_ap_01 o x n F) := by
  refine Met.of_wp (Ls := #[.val (.ref o), .unset, .unset, .unset, .unset]) pn_2 (fun m => by first | rfl | (simp [entryFrame, mkF, argsToLocals, Value.category]; done)) ?_
  show Wp none l Z "com/example/keyword_to_concept/keywordtoconcept/evaluation/RankedTopic" "averagePrecision" prog_7_method_5_code 5 (some .double) ({ frames := 0, cells := 0, slots := 0, locals := 0 } : Room) ((o, oI "com/example/keyword_to_concept/keywordtoconcept/evaluation/RankedTopic" sg_1 [(.ref x), (.int n)]) :: (x, oA .boolean [(0 : Int32), (1 : Int32)]) :: F) 0 0 0 #[.val (.ref o), .unset, .unset, .unset, .unset] [] (Q_c_ap_01 o x n F)
  refine wp_dconst0 0 D_prog_7_m5_0 (by decide +kernel) ?_
  refine wp_dstore_n #[.val (.ref o), .val (.double (0 : UInt64)), .second, .unset, .unset] D_prog_7_m5_1 rfl ?_
  refine wp_iconst 0 D_prog_7_m5_2 (by decide) ?_
  refine wp_istore_n #[.val (.ref o), .val (.double (0 : UInt64)), .second, .val (.int (0 : Int32)), .unset] D_prog_7_m5_3 rfl ?_
  refine wp_iconst 0 D_prog_7_m5_4 (by decide) ?_
  refine wp_istore #[.val (.ref o), .val (.double (0 : UInt64)), .second, .val (.int (0 : Int32)), .val (.int (0 : Int32))] D_prog_7_m5_5 rfl ?_
  refine wp_iload D_prog_7_m5_7 rfl ?_
  refine wp_aload_n D_prog_7_m5_9 rfl rfl ?_
  refine wp_getfield D_prog_7_m5_10 (hw _ (List.mem_of_getElem? (i := 11) rfl)) (fld_new (i := 0) (fi := 0) rfl rfl rfl) ?_
  refine wp_lengthI (i := 1) (2 : Int32) D_prog_7_m5_13 rfl rfl ?_
  refine wp_icmp_ge D_prog_7_m5_14 (pc'' := 47) ⟨by decide, by decide⟩ (fun h1 => by exact absurd h1 (by decide)) (fun h1 => ?_)
  refine wp_aload_n D_prog_7_m5_17 rfl rfl ?_
  refine wp_getfield D_prog_7_m5_18 (hw _ (List.mem_of_getElem? (i := 11) rfl)) (fld_new (i := 0) (fi := 0) rfl rfl rfl) ?_
  refine wp_iload D_prog_7_m5_21 rfl ?_
  refine wp_zaload (i := 1) (0) D_prog_7_m5_23 rfl (by decide) (by decide) rfl ?_
  refine wp_if_eq D_prog_7_m5_24 (pc'' := 41) ⟨by decide, by decide⟩ (fun h2 => ?_) (fun h2 => by exact absurd h2 (by decide))
  refine wp_iinc 1 #[.val (.ref o), .val (.double (0 : UInt64)), .second, .val (.int (0 : Int32)), .val (.int (1 : Int32))] D_prog_7_m5_41 rfl rfl (by rw [show (0 : Int32) + (1 : Int32) = (1 : Int32) from by decide]; rfl) ?_
  refine wp_goto D_prog_7_m5_44 (pc'' := 7) ⟨by decide, by decide⟩ ?_
  refine wp_iload D_prog_7_m5_7 rfl ?_
  refine wp_aload_n D_prog_7_m5_9 rfl rfl ?_
  refine wp_getfield D_prog_7_m5_10 (hw _ (List.mem_of_getElem? (i := 11) rfl)) (fld_new (i := 0) (fi := 0) rfl rfl rfl) ?_
  refine wp_lengthI (i := 1) (2 : Int32) D_prog_7_m5_13 rfl rfl ?_
  refine wp_icmp_ge D_prog_7_m5_14 (pc'' := 47) ⟨by decide, by decide⟩ (fun h3 => by exact absurd h3 (by decide)) (fun h3 => ?_)
  refine wp_aload_n D_prog_7_m5_17 rfl rfl ?_
  refine wp_getfield D_prog_7_m5_18 (hw _ (List.mem_of_getElem? (i := 11) rfl)) (fld_new (i := 0) (fi := 0) rfl rfl rfl) ?_
  refine wp_iload D_prog_7_m5_21 rfl ?_
  refine wp_zaload (i := 1) (1) D_prog_7_m5_23 rfl (by decide) (by decide) rfl ?_
  refine wp_if_eq D_prog_7_m5_24 (pc'' := 41) ⟨by decide, by decide⟩ (fun h4 => by exact absurd h4 (by decide)) (fun h4 => ?_)
  refine wp_iinc 1 #[.val (.ref o), .val (.double (0 : UInt64)), .second, .val (.int (1 : Int32)), .val (.int (1 : Int32))] D_prog_7_m5_27 rfl rfl (by rw [show (0 : Int32) + (1 : Int32) = (1 : Int32) from by decide]; rfl) ?_
  refine wp_dload_n D_prog_7_m5_30 rfl ?_
  refine wp_iload_n D_prog_7_m5_31 rfl ?_
  refine wp_i2d (4607182418800017408 : UInt64) D_prog_7_m5_32 (by decide +kernel) ?_
  refine wp_iload D_prog_7_m5_33 rfl ?_
  refine wp_iconst 1 D_prog_7_m5_35 (by decide) ?_
  refine wp_iadd D_prog_7_m5_36 ?_
  rw [show ((1 : Int32) + (1 : Int32)) = (2 : Int32) from by decide]
  refine wp_i2d (4611686018427387904 : UInt64) D_prog_7_m5_37 (by decide +kernel) ?_
  refine wp_ddiv (4602678819172646912 : UInt64) D_prog_7_m5_38 (by unfold Jvm.Free.Fl.NoNaN64; decide +kernel) (by decide +kernel) ?_
  refine wp_dadd (4602678819172646912 : UInt64) D_prog_7_m5_39 (by unfold Jvm.Free.Fl.NoNaN64; decide +kernel) (by decide +kernel) ?_
  refine wp_dstore_n #[.val (.ref o), .val (.double (4602678819172646912 : UInt64)), .second, .val (.int (1 : Int32)), .val (.int (1 : Int32))] D_prog_7_m5_40 rfl ?_
  refine wp_iinc 1 #[.val (.ref o), .val (.double (4602678819172646912 : UInt64)), .second, .val (.int (1 : Int32)), .val (.int (2 : Int32))] D_prog_7_m5_41 rfl rfl (by rw [show (1 : Int32) + (1 : Int32) = (2 : Int32) from by decide]; rfl) ?_
  refine wp_goto D_prog_7_m5_44 (pc'' := 7) ⟨by decide, by decide⟩ ?_
  refine wp_iload D_prog_7_m5_7 rfl ?_
  refine wp_aload_n D_prog_7_m5_9 rfl rfl ?_
  refine wp_getfield D_prog_7_m5_10 (hw _ (List.mem_of_getElem? (i := 11) rfl)) (fld_new (i := 0) (fi := 0) rfl rfl rfl) ?_
  refine wp_lengthI (i := 1) (2 : Int32) D_prog_7_m5_13 rfl rfl ?_
  refine wp_icmp_ge D_prog_7_m5_14 (pc'' := 47) ⟨by decide, by decide⟩ (fun h5 => ?_) (fun h5 => by exact absurd h5 (by decide))
  refine wp_aload_n D_prog_7_m5_47 rfl rfl ?_
  refine wp_getfield D_prog_7_m5_48 (hw _ (List.mem_of_getElem? (i := 13) rfl)) (fld_new (i := 0) (fi := 1) rfl rfl rfl) ?_
  refine wp_if_ne D_prog_7_m5_51 (pc'' := 58) ⟨by decide, by decide⟩ (fun h6 => ?_) (fun h6 => ?_)
  · skip
    refine wp_dload_n D_prog_7_m5_58 rfl ?_
    refine wp_aload_n D_prog_7_m5_59 rfl rfl ?_
    refine wp_getfield D_prog_7_m5_60 (hw _ (List.mem_of_getElem? (i := 13) rfl)) (fld_new (i := 0) (fi := 1) rfl rfl rfl) ?_
    refine wp_i2d (FP.i2d n) D_prog_7_m5_63 rfl ?_
    refine wp_ddiv (FP.ddiv (4602678819172646912 : UInt64) (FP.i2d n)) D_prog_7_m5_64 (Jvm.Free.Fl.ddiv_out (by unfold Jvm.Free.Fl.NoNaN64; decide +kernel) (Jvm.Free.Fl.i2d_fin _) (Jvm.Free.Fl.i2d_nz h6)) rfl ?_
    refine wp_dreturn D_prog_7_m5_65 rfl (by decide) (by decide) ?_
    exact ⟨by rw [if_neg h6], rfl⟩
  · skip
    refine wp_dconst0 0 D_prog_7_m5_54 (by decide +kernel) ?_
    refine wp_goto D_prog_7_m5_55 (pc'' := 65) ⟨by decide, by decide⟩ ?_
    refine wp_dreturn D_prog_7_m5_65 rfl (by decide) (by decide) ?_
    exact ⟨by rw [if_pos h6], rfl⟩
def Q_c_ap_10 (o x : Addr) (n : Int32) (F : OH) : Option Value → OH → Prop := fun v H' => v = some (.double (if n = 0 then 0 else FP.ddiv (4607182418800017408 : UInt64) (FP.i2d n))) ∧ H' = ((o, oI "com/example/keyword_to_concept/keywordtoconcept/evaluation/RankedTopic" sg_1 [(.ref x), (.int n)]) :: (x, oA .boolean [(1 : Int32), (0 : Int32)]) :: F)
set_option maxRecDepth 65536 in
set_option maxHeartbeats 40000000 in
theorem c_ap_10 (l : Launch) (Z : State) (a0 : Array Value) (hw : ∀ d ∈ tables_1, d.before a0 Z = true) (o x : Addr) (n : Int32) (F : OH)  :
    Met l Z (⟨"com/example/keyword_to_concept/keywordtoconcept/evaluation/RankedTopic", "averagePrecision", "()D"⟩ : MethodName) prog_7_method_5_code 5 (some .double) ({ frames := 0, cells := 0, slots := 0, locals := 0 } : Room) [(.ref o)] ((o, oI "com/example/keyword_to_concept/keywordtoconcept/evaluation/RankedTopic" sg_1 [(.ref x), (.int n)]) :: (x, oA .boolean [(1 : Int32), (0 : Int32)]) :: F) (Q_c_ap_10 o x n F) := by
  refine Met.of_wp (Ls := #[.val (.ref o), .unset, .unset, .unset, .unset]) pn_2 (fun m => by first | rfl | (simp [entryFrame, mkF, argsToLocals, Value.category]; done)) ?_
  show Wp none l Z "com/example/keyword_to_concept/keywordtoconcept/evaluation/RankedTopic" "averagePrecision" prog_7_method_5_code 5 (some .double) ({ frames := 0, cells := 0, slots := 0, locals := 0 } : Room) ((o, oI "com/example/keyword_to_concept/keywordtoconcept/evaluation/RankedTopic" sg_1 [(.ref x), (.int n)]) :: (x, oA .boolean [(1 : Int32), (0 : Int32)]) :: F) 0 0 0 #[.val (.ref o), .unset, .unset, .unset, .unset] [] (Q_c_ap_10 o x n F)
  refine wp_dconst0 0 D_prog_7_m5_0 (by decide +kernel) ?_
  refine wp_dstore_n #[.val (.ref o), .val (.double (0 : UInt64)), .second, .unset, .unset] D_prog_7_m5_1 rfl ?_
  refine wp_iconst 0 D_prog_7_m5_2 (by decide) ?_
  refine wp_istore_n #[.val (.ref o), .val (.double (0 : UInt64)), .second, .val (.int (0 : Int32)), .unset] D_prog_7_m5_3 rfl ?_
  refine wp_iconst 0 D_prog_7_m5_4 (by decide) ?_
  refine wp_istore #[.val (.ref o), .val (.double (0 : UInt64)), .second, .val (.int (0 : Int32)), .val (.int (0 : Int32))] D_prog_7_m5_5 rfl ?_
  refine wp_iload D_prog_7_m5_7 rfl ?_
  refine wp_aload_n D_prog_7_m5_9 rfl rfl ?_
  refine wp_getfield D_prog_7_m5_10 (hw _ (List.mem_of_getElem? (i := 11) rfl)) (fld_new (i := 0) (fi := 0) rfl rfl rfl) ?_
  refine wp_lengthI (i := 1) (2 : Int32) D_prog_7_m5_13 rfl rfl ?_
  refine wp_icmp_ge D_prog_7_m5_14 (pc'' := 47) ⟨by decide, by decide⟩ (fun h1 => by exact absurd h1 (by decide)) (fun h1 => ?_)
  refine wp_aload_n D_prog_7_m5_17 rfl rfl ?_
  refine wp_getfield D_prog_7_m5_18 (hw _ (List.mem_of_getElem? (i := 11) rfl)) (fld_new (i := 0) (fi := 0) rfl rfl rfl) ?_
  refine wp_iload D_prog_7_m5_21 rfl ?_
  refine wp_zaload (i := 1) (0) D_prog_7_m5_23 rfl (by decide) (by decide) rfl ?_
  refine wp_if_eq D_prog_7_m5_24 (pc'' := 41) ⟨by decide, by decide⟩ (fun h2 => by exact absurd h2 (by decide)) (fun h2 => ?_)
  refine wp_iinc 1 #[.val (.ref o), .val (.double (0 : UInt64)), .second, .val (.int (1 : Int32)), .val (.int (0 : Int32))] D_prog_7_m5_27 rfl rfl (by rw [show (0 : Int32) + (1 : Int32) = (1 : Int32) from by decide]; rfl) ?_
  refine wp_dload_n D_prog_7_m5_30 rfl ?_
  refine wp_iload_n D_prog_7_m5_31 rfl ?_
  refine wp_i2d (4607182418800017408 : UInt64) D_prog_7_m5_32 (by decide +kernel) ?_
  refine wp_iload D_prog_7_m5_33 rfl ?_
  refine wp_iconst 1 D_prog_7_m5_35 (by decide) ?_
  refine wp_iadd D_prog_7_m5_36 ?_
  rw [show ((0 : Int32) + (1 : Int32)) = (1 : Int32) from by decide]
  refine wp_i2d (4607182418800017408 : UInt64) D_prog_7_m5_37 (by decide +kernel) ?_
  refine wp_ddiv (4607182418800017408 : UInt64) D_prog_7_m5_38 (by unfold Jvm.Free.Fl.NoNaN64; decide +kernel) (by decide +kernel) ?_
  refine wp_dadd (4607182418800017408 : UInt64) D_prog_7_m5_39 (by unfold Jvm.Free.Fl.NoNaN64; decide +kernel) (by decide +kernel) ?_
  refine wp_dstore_n #[.val (.ref o), .val (.double (4607182418800017408 : UInt64)), .second, .val (.int (1 : Int32)), .val (.int (0 : Int32))] D_prog_7_m5_40 rfl ?_
  refine wp_iinc 1 #[.val (.ref o), .val (.double (4607182418800017408 : UInt64)), .second, .val (.int (1 : Int32)), .val (.int (1 : Int32))] D_prog_7_m5_41 rfl rfl (by rw [show (0 : Int32) + (1 : Int32) = (1 : Int32) from by decide]; rfl) ?_
  refine wp_goto D_prog_7_m5_44 (pc'' := 7) ⟨by decide, by decide⟩ ?_
  refine wp_iload D_prog_7_m5_7 rfl ?_
  refine wp_aload_n D_prog_7_m5_9 rfl rfl ?_
  refine wp_getfield D_prog_7_m5_10 (hw _ (List.mem_of_getElem? (i := 11) rfl)) (fld_new (i := 0) (fi := 0) rfl rfl rfl) ?_
  refine wp_lengthI (i := 1) (2 : Int32) D_prog_7_m5_13 rfl rfl ?_
  refine wp_icmp_ge D_prog_7_m5_14 (pc'' := 47) ⟨by decide, by decide⟩ (fun h3 => by exact absurd h3 (by decide)) (fun h3 => ?_)
  refine wp_aload_n D_prog_7_m5_17 rfl rfl ?_
  refine wp_getfield D_prog_7_m5_18 (hw _ (List.mem_of_getElem? (i := 11) rfl)) (fld_new (i := 0) (fi := 0) rfl rfl rfl) ?_
  refine wp_iload D_prog_7_m5_21 rfl ?_
  refine wp_zaload (i := 1) (1) D_prog_7_m5_23 rfl (by decide) (by decide) rfl ?_
  refine wp_if_eq D_prog_7_m5_24 (pc'' := 41) ⟨by decide, by decide⟩ (fun h4 => ?_) (fun h4 => by exact absurd h4 (by decide))
  refine wp_iinc 1 #[.val (.ref o), .val (.double (4607182418800017408 : UInt64)), .second, .val (.int (1 : Int32)), .val (.int (2 : Int32))] D_prog_7_m5_41 rfl rfl (by rw [show (1 : Int32) + (1 : Int32) = (2 : Int32) from by decide]; rfl) ?_
  refine wp_goto D_prog_7_m5_44 (pc'' := 7) ⟨by decide, by decide⟩ ?_
  refine wp_iload D_prog_7_m5_7 rfl ?_
  refine wp_aload_n D_prog_7_m5_9 rfl rfl ?_
  refine wp_getfield D_prog_7_m5_10 (hw _ (List.mem_of_getElem? (i := 11) rfl)) (fld_new (i := 0) (fi := 0) rfl rfl rfl) ?_
  refine wp_lengthI (i := 1) (2 : Int32) D_prog_7_m5_13 rfl rfl ?_
  refine wp_icmp_ge D_prog_7_m5_14 (pc'' := 47) ⟨by decide, by decide⟩ (fun h5 => ?_) (fun h5 => by exact absurd h5 (by decide))
  refine wp_aload_n D_prog_7_m5_47 rfl rfl ?_
  refine wp_getfield D_prog_7_m5_48 (hw _ (List.mem_of_getElem? (i := 13) rfl)) (fld_new (i := 0) (fi := 1) rfl rfl rfl) ?_
  refine wp_if_ne D_prog_7_m5_51 (pc'' := 58) ⟨by decide, by decide⟩ (fun h6 => ?_) (fun h6 => ?_)
  · skip
    refine wp_dload_n D_prog_7_m5_58 rfl ?_
    refine wp_aload_n D_prog_7_m5_59 rfl rfl ?_
    refine wp_getfield D_prog_7_m5_60 (hw _ (List.mem_of_getElem? (i := 13) rfl)) (fld_new (i := 0) (fi := 1) rfl rfl rfl) ?_
    refine wp_i2d (FP.i2d n) D_prog_7_m5_63 rfl ?_
    refine wp_ddiv (FP.ddiv (4607182418800017408 : UInt64) (FP.i2d n)) D_prog_7_m5_64 (Jvm.Free.Fl.ddiv_out (by unfold Jvm.Free.Fl.NoNaN64; decide +kernel) (Jvm.Free.Fl.i2d_fin _) (Jvm.Free.Fl.i2d_nz h6)) rfl ?_
    refine wp_dreturn D_prog_7_m5_65 rfl (by decide) (by decide) ?_
    exact ⟨by rw [if_neg h6], rfl⟩
  · skip
    refine wp_dconst0 0 D_prog_7_m5_54 (by decide +kernel) ?_
    refine wp_goto D_prog_7_m5_55 (pc'' := 65) ⟨by decide, by decide⟩ ?_
    refine wp_dreturn D_prog_7_m5_65 rfl (by decide) (by decide) ?_
    exact ⟨by rw [if_pos h6], rfl⟩
def Q_c_ap_11 (o x : Addr) (n : Int32) (F : OH) : Option Value → OH → Prop := fun v H' => v = some (.double (if n = 0 then 0 else FP.ddiv (4611686018427387904 : UInt64) (FP.i2d n))) ∧ H' = ((o, oI "com/example/keyword_to_concept/keywordtoconcept/evaluation/RankedTopic" sg_1 [(.ref x), (.int n)]) :: (x, oA .boolean [(1 : Int32), (1 : Int32)]) :: F)
set_option maxRecDepth 65536 in
set_option maxHeartbeats 40000000 in
theorem c_ap_11 (l : Launch) (Z : State) (a0 : Array Value) (hw : ∀ d ∈ tables_1, d.before a0 Z = true) (o x : Addr) (n : Int32) (F : OH)  :
    Met l Z (⟨"com/example/keyword_to_concept/keywordtoconcept/evaluation/RankedTopic", "averagePrecision", "()D"⟩ : MethodName) prog_7_method_5_code 5 (some .double) ({ frames := 0, cells := 0, slots := 0, locals := 0 } : Room) [(.ref o)] ((o, oI "com/example/keyword_to_concept/keywordtoconcept/evaluation/RankedTopic" sg_1 [(.ref x), (.int n)]) :: (x, oA .boolean [(1 : Int32), (1 : Int32)]) :: F) (Q_c_ap_11 o x n F) := by
  refine Met.of_wp (Ls := #[.val (.ref o), .unset, .unset, .unset, .unset]) pn_2 (fun m => by first | rfl | (simp [entryFrame, mkF, argsToLocals, Value.category]; done)) ?_
  show Wp none l Z "com/example/keyword_to_concept/keywordtoconcept/evaluation/RankedTopic" "averagePrecision" prog_7_method_5_code 5 (some .double) ({ frames := 0, cells := 0, slots := 0, locals := 0 } : Room) ((o, oI "com/example/keyword_to_concept/keywordtoconcept/evaluation/RankedTopic" sg_1 [(.ref x), (.int n)]) :: (x, oA .boolean [(1 : Int32), (1 : Int32)]) :: F) 0 0 0 #[.val (.ref o), .unset, .unset, .unset, .unset] [] (Q_c_ap_11 o x n F)
  refine wp_dconst0 0 D_prog_7_m5_0 (by decide +kernel) ?_
  refine wp_dstore_n #[.val (.ref o), .val (.double (0 : UInt64)), .second, .unset, .unset] D_prog_7_m5_1 rfl ?_
  refine wp_iconst 0 D_prog_7_m5_2 (by decide) ?_
  refine wp_istore_n #[.val (.ref o), .val (.double (0 : UInt64)), .second, .val (.int (0 : Int32)), .unset] D_prog_7_m5_3 rfl ?_
  refine wp_iconst 0 D_prog_7_m5_4 (by decide) ?_
  refine wp_istore #[.val (.ref o), .val (.double (0 : UInt64)), .second, .val (.int (0 : Int32)), .val (.int (0 : Int32))] D_prog_7_m5_5 rfl ?_
  refine wp_iload D_prog_7_m5_7 rfl ?_
  refine wp_aload_n D_prog_7_m5_9 rfl rfl ?_
  refine wp_getfield D_prog_7_m5_10 (hw _ (List.mem_of_getElem? (i := 11) rfl)) (fld_new (i := 0) (fi := 0) rfl rfl rfl) ?_
  refine wp_lengthI (i := 1) (2 : Int32) D_prog_7_m5_13 rfl rfl ?_
  refine wp_icmp_ge D_prog_7_m5_14 (pc'' := 47) ⟨by decide, by decide⟩ (fun h1 => by exact absurd h1 (by decide)) (fun h1 => ?_)
  refine wp_aload_n D_prog_7_m5_17 rfl rfl ?_
  refine wp_getfield D_prog_7_m5_18 (hw _ (List.mem_of_getElem? (i := 11) rfl)) (fld_new (i := 0) (fi := 0) rfl rfl rfl) ?_
  refine wp_iload D_prog_7_m5_21 rfl ?_
  refine wp_zaload (i := 1) (0) D_prog_7_m5_23 rfl (by decide) (by decide) rfl ?_
  refine wp_if_eq D_prog_7_m5_24 (pc'' := 41) ⟨by decide, by decide⟩ (fun h2 => by exact absurd h2 (by decide)) (fun h2 => ?_)
  refine wp_iinc 1 #[.val (.ref o), .val (.double (0 : UInt64)), .second, .val (.int (1 : Int32)), .val (.int (0 : Int32))] D_prog_7_m5_27 rfl rfl (by rw [show (0 : Int32) + (1 : Int32) = (1 : Int32) from by decide]; rfl) ?_
  refine wp_dload_n D_prog_7_m5_30 rfl ?_
  refine wp_iload_n D_prog_7_m5_31 rfl ?_
  refine wp_i2d (4607182418800017408 : UInt64) D_prog_7_m5_32 (by decide +kernel) ?_
  refine wp_iload D_prog_7_m5_33 rfl ?_
  refine wp_iconst 1 D_prog_7_m5_35 (by decide) ?_
  refine wp_iadd D_prog_7_m5_36 ?_
  rw [show ((0 : Int32) + (1 : Int32)) = (1 : Int32) from by decide]
  refine wp_i2d (4607182418800017408 : UInt64) D_prog_7_m5_37 (by decide +kernel) ?_
  refine wp_ddiv (4607182418800017408 : UInt64) D_prog_7_m5_38 (by unfold Jvm.Free.Fl.NoNaN64; decide +kernel) (by decide +kernel) ?_
  refine wp_dadd (4607182418800017408 : UInt64) D_prog_7_m5_39 (by unfold Jvm.Free.Fl.NoNaN64; decide +kernel) (by decide +kernel) ?_
  refine wp_dstore_n #[.val (.ref o), .val (.double (4607182418800017408 : UInt64)), .second, .val (.int (1 : Int32)), .val (.int (0 : Int32))] D_prog_7_m5_40 rfl ?_
  refine wp_iinc 1 #[.val (.ref o), .val (.double (4607182418800017408 : UInt64)), .second, .val (.int (1 : Int32)), .val (.int (1 : Int32))] D_prog_7_m5_41 rfl rfl (by rw [show (0 : Int32) + (1 : Int32) = (1 : Int32) from by decide]; rfl) ?_
  refine wp_goto D_prog_7_m5_44 (pc'' := 7) ⟨by decide, by decide⟩ ?_
  refine wp_iload D_prog_7_m5_7 rfl ?_
  refine wp_aload_n D_prog_7_m5_9 rfl rfl ?_
  refine wp_getfield D_prog_7_m5_10 (hw _ (List.mem_of_getElem? (i := 11) rfl)) (fld_new (i := 0) (fi := 0) rfl rfl rfl) ?_
  refine wp_lengthI (i := 1) (2 : Int32) D_prog_7_m5_13 rfl rfl ?_
  refine wp_icmp_ge D_prog_7_m5_14 (pc'' := 47) ⟨by decide, by decide⟩ (fun h3 => by exact absurd h3 (by decide)) (fun h3 => ?_)
  refine wp_aload_n D_prog_7_m5_17 rfl rfl ?_
  refine wp_getfield D_prog_7_m5_18 (hw _ (List.mem_of_getElem? (i := 11) rfl)) (fld_new (i := 0) (fi := 0) rfl rfl rfl) ?_
  refine wp_iload D_prog_7_m5_21 rfl ?_
  refine wp_zaload (i := 1) (1) D_prog_7_m5_23 rfl (by decide) (by decide) rfl ?_
  refine wp_if_eq D_prog_7_m5_24 (pc'' := 41) ⟨by decide, by decide⟩ (fun h4 => by exact absurd h4 (by decide)) (fun h4 => ?_)
  refine wp_iinc 1 #[.val (.ref o), .val (.double (4607182418800017408 : UInt64)), .second, .val (.int (2 : Int32)), .val (.int (1 : Int32))] D_prog_7_m5_27 rfl rfl (by rw [show (1 : Int32) + (1 : Int32) = (2 : Int32) from by decide]; rfl) ?_
  refine wp_dload_n D_prog_7_m5_30 rfl ?_
  refine wp_iload_n D_prog_7_m5_31 rfl ?_
  refine wp_i2d (4611686018427387904 : UInt64) D_prog_7_m5_32 (by decide +kernel) ?_
  refine wp_iload D_prog_7_m5_33 rfl ?_
  refine wp_iconst 1 D_prog_7_m5_35 (by decide) ?_
  refine wp_iadd D_prog_7_m5_36 ?_
  rw [show ((1 : Int32) + (1 : Int32)) = (2 : Int32) from by decide]
  refine wp_i2d (4611686018427387904 : UInt64) D_prog_7_m5_37 (by decide +kernel) ?_
  refine wp_ddiv (4607182418800017408 : UInt64) D_prog_7_m5_38 (by unfold Jvm.Free.Fl.NoNaN64; decide +kernel) (by decide +kernel) ?_
  refine wp_dadd (4611686018427387904 : UInt64) D_prog_7_m5_39 (by unfold Jvm.Free.Fl.NoNaN64; decide +kernel) (by decide +kernel) ?_
  refine wp_dstore_n #[.val (.ref o), .val (.double (4611686018427387904 : UInt64)), .second, .val (.int (2 : Int32)), .val (.int (1 : Int32))] D_prog_7_m5_40 rfl ?_
  refine wp_iinc 1 #[.val (.ref o), .val (.double (4611686018427387904 : UInt64)), .second, .val (.int (2 : Int32)), .val (.int (2 : Int32))] D_prog_7_m5_41 rfl rfl (by rw [show (1 : Int32) + (1 : Int32) = (2 : Int32) from by decide]; rfl) ?_
  refine wp_goto D_prog_7_m5_44 (pc'' := 7) ⟨by decide, by decide⟩ ?_
  refine wp_iload D_prog_7_m5_7 rfl ?_
  refine wp_aload_n D_prog_7_m5_9 rfl rfl ?_
  refine wp_getfield D_prog_7_m5_10 (hw _ (List.mem_of_getElem? (i := 11) rfl)) (fld_new (i := 0) (fi := 0) rfl rfl rfl) ?_
  refine wp_lengthI (i := 1) (2 : Int32) D_prog_7_m5_13 rfl rfl ?_
  refine wp_icmp_ge D_prog_7_m5_14 (pc'' := 47) ⟨by decide, by decide⟩ (fun h5 => ?_) (fun h5 => by exact absurd h5 (by decide))
  refine wp_aload_n D_prog_7_m5_47 rfl rfl ?_
  refine wp_getfield D_prog_7_m5_48 (hw _ (List.mem_of_getElem? (i := 13) rfl)) (fld_new (i := 0) (fi := 1) rfl rfl rfl) ?_
  refine wp_if_ne D_prog_7_m5_51 (pc'' := 58) ⟨by decide, by decide⟩ (fun h6 => ?_) (fun h6 => ?_)
  · skip
    refine wp_dload_n D_prog_7_m5_58 rfl ?_
    refine wp_aload_n D_prog_7_m5_59 rfl rfl ?_
    refine wp_getfield D_prog_7_m5_60 (hw _ (List.mem_of_getElem? (i := 13) rfl)) (fld_new (i := 0) (fi := 1) rfl rfl rfl) ?_
    refine wp_i2d (FP.i2d n) D_prog_7_m5_63 rfl ?_
    refine wp_ddiv (FP.ddiv (4611686018427387904 : UInt64) (FP.i2d n)) D_prog_7_m5_64 (Jvm.Free.Fl.ddiv_out (by unfold Jvm.Free.Fl.NoNaN64; decide +kernel) (Jvm.Free.Fl.i2d_fin _) (Jvm.Free.Fl.i2d_nz h6)) rfl ?_
    refine wp_dreturn D_prog_7_m5_65 rfl (by decide) (by decide) ?_
    exact ⟨by rw [if_neg h6], rfl⟩
  · skip
    refine wp_dconst0 0 D_prog_7_m5_54 (by decide +kernel) ?_
    refine wp_goto D_prog_7_m5_55 (pc'' := 65) ⟨by decide, by decide⟩ ?_
    refine wp_dreturn D_prog_7_m5_65 rfl (by decide) (by decide) ?_
    exact ⟨by rw [if_pos h6], rfl⟩
def Q_c_ap_000 (o x : Addr) (n : Int32) (F : OH) : Option Value → OH → Prop := fun v H' => v = some (.double (if n = 0 then 0 else FP.ddiv (0 : UInt64) (FP.i2d n))) ∧ H' = ((o, oI "com/example/keyword_to_concept/keywordtoconcept/evaluation/RankedTopic" sg_1 [(.ref x), (.int n)]) :: (x, oA .boolean [(0 : Int32), (0 : Int32), (0 : Int32)]) :: F)
set_option maxRecDepth 65536 in
set_option maxHeartbeats 40000000 in
theorem c_ap_000 (l : Launch) (Z : State) (a0 : Array Value) (hw : ∀ d ∈ tables_1, d.before a0 Z = true) (o x : Addr) (n : Int32) (F : OH)  :
    Met l Z (⟨"com/example/keyword_to_concept/keywordtoconcept/evaluation/RankedTopic", "averagePrecision", "()D"⟩ : MethodName) prog_7_method_5_code 5 (some .double) ({ frames := 0, cells := 0, slots := 0, locals := 0 } : Room) [(.ref o)] ((o, oI "com/example/keyword_to_concept/keywordtoconcept/evaluation/RankedTopic" sg_1 [(.ref x), (.int n)]) :: (x, oA .boolean [(0 : Int32), (0 : Int32), (0 : Int32)]) :: F) (Q_c_ap_000 o x n F) := by
  refine Met.of_wp (Ls := #[.val (.ref o), .unset, .unset, .unset, .unset]) pn_2 (fun m => by first | rfl | (simp [entryFrame, mkF, argsToLocals, Value.category]; done)) ?_
  show Wp none l Z "com/example/keyword_to_concept/keywordtoconcept/evaluation/RankedTopic" "averagePrecision" prog_7_method_5_code 5 (some .double) ({ frames := 0, cells := 0, slots := 0, locals := 0 } : Room) ((o, oI "com/example/keyword_to_concept/keywordtoconcept/evaluation/RankedTopic" sg_1 [(.ref x), (.int n)]) :: (x, oA .boolean [(0 : Int32), (0 : Int32), (0 : Int32)]) :: F) 0 0 0 #[.val (.ref o), .unset, .unset, .unset, .unset] [] (Q_c_ap_000 o x n F)
  refine wp_dconst0 0 D_prog_7_m5_0 (by decide +kernel) ?_
  refine wp_dstore_n #[.val (.ref o), .val (.double (0 : UInt64)), .second, .unset, .unset] D_prog_7_m5_1 rfl ?_
  refine wp_iconst 0 D_prog_7_m5_2 (by decide) ?_
  refine wp_istore_n #[.val (.ref o), .val (.double (0 : UInt64)), .second, .val (.int (0 : Int32)), .unset] D_prog_7_m5_3 rfl ?_
  refine wp_iconst 0 D_prog_7_m5_4 (by decide) ?_
  refine wp_istore #[.val (.ref o), .val (.double (0 : UInt64)), .second, .val (.int (0 : Int32)), .val (.int (0 : Int32))] D_prog_7_m5_5 rfl ?_
  refine wp_iload D_prog_7_m5_7 rfl ?_
  refine wp_aload_n D_prog_7_m5_9 rfl rfl ?_
  refine wp_getfield D_prog_7_m5_10 (hw _ (List.mem_of_getElem? (i := 11) rfl)) (fld_new (i := 0) (fi := 0) rfl rfl rfl) ?_
  refine wp_lengthI (i := 1) (3 : Int32) D_prog_7_m5_13 rfl rfl ?_
  refine wp_icmp_ge D_prog_7_m5_14 (pc'' := 47) ⟨by decide, by decide⟩ (fun h1 => by exact absurd h1 (by decide)) (fun h1 => ?_)
  refine wp_aload_n D_prog_7_m5_17 rfl rfl ?_
  refine wp_getfield D_prog_7_m5_18 (hw _ (List.mem_of_getElem? (i := 11) rfl)) (fld_new (i := 0) (fi := 0) rfl rfl rfl) ?_
  refine wp_iload D_prog_7_m5_21 rfl ?_
  refine wp_zaload (i := 1) (0) D_prog_7_m5_23 rfl (by decide) (by decide) rfl ?_
  refine wp_if_eq D_prog_7_m5_24 (pc'' := 41) ⟨by decide, by decide⟩ (fun h2 => ?_) (fun h2 => by exact absurd h2 (by decide))
  refine wp_iinc 1 #[.val (.ref o), .val (.double (0 : UInt64)), .second, .val (.int (0 : Int32)), .val (.int (1 : Int32))] D_prog_7_m5_41 rfl rfl (by rw [show (0 : Int32) + (1 : Int32) = (1 : Int32) from by decide]; rfl) ?_
  refine wp_goto D_prog_7_m5_44 (pc'' := 7) ⟨by decide, by decide⟩ ?_
  refine wp_iload D_prog_7_m5_7 rfl ?_
  refine wp_aload_n D_prog_7_m5_9 rfl rfl ?_
  refine wp_getfield D_prog_7_m5_10 (hw _ (List.mem_of_getElem? (i := 11) rfl)) (fld_new (i := 0) (fi := 0) rfl rfl rfl) ?_
  refine wp_lengthI (i := 1) (3 : Int32) D_prog_7_m5_13 rfl rfl ?_
  refine wp_icmp_ge D_prog_7_m5_14 (pc'' := 47) ⟨by decide, by decide⟩ (fun h3 => by exact absurd h3 (by decide)) (fun h3 => ?_)
  refine wp_aload_n D_prog_7_m5_17 rfl rfl ?_
  refine wp_getfield D_prog_7_m5_18 (hw _ (List.mem_of_getElem? (i := 11) rfl)) (fld_new (i := 0) (fi := 0) rfl rfl rfl) ?_
  refine wp_iload D_prog_7_m5_21 rfl ?_
  refine wp_zaload (i := 1) (1) D_prog_7_m5_23 rfl (by decide) (by decide) rfl ?_
  refine wp_if_eq D_prog_7_m5_24 (pc'' := 41) ⟨by decide, by decide⟩ (fun h4 => ?_) (fun h4 => by exact absurd h4 (by decide))
  refine wp_iinc 1 #[.val (.ref o), .val (.double (0 : UInt64)), .second, .val (.int (0 : Int32)), .val (.int (2 : Int32))] D_prog_7_m5_41 rfl rfl (by rw [show (1 : Int32) + (1 : Int32) = (2 : Int32) from by decide]; rfl) ?_
  refine wp_goto D_prog_7_m5_44 (pc'' := 7) ⟨by decide, by decide⟩ ?_
  refine wp_iload D_prog_7_m5_7 rfl ?_
  refine wp_aload_n D_prog_7_m5_9 rfl rfl ?_
  refine wp_getfield D_prog_7_m5_10 (hw _ (List.mem_of_getElem? (i := 11) rfl)) (fld_new (i := 0) (fi := 0) rfl rfl rfl) ?_
  refine wp_lengthI (i := 1) (3 : Int32) D_prog_7_m5_13 rfl rfl ?_
  refine wp_icmp_ge D_prog_7_m5_14 (pc'' := 47) ⟨by decide, by decide⟩ (fun h5 => by exact absurd h5 (by decide)) (fun h5 => ?_)
  refine wp_aload_n D_prog_7_m5_17 rfl rfl ?_
  refine wp_getfield D_prog_7_m5_18 (hw _ (List.mem_of_getElem? (i := 11) rfl)) (fld_new (i := 0) (fi := 0) rfl rfl rfl) ?_
  refine wp_iload D_prog_7_m5_21 rfl ?_
  refine wp_zaload (i := 1) (2) D_prog_7_m5_23 rfl (by decide) (by decide) rfl ?_
  refine wp_if_eq D_prog_7_m5_24 (pc'' := 41) ⟨by decide, by decide⟩ (fun h6 => ?_) (fun h6 => by exact absurd h6 (by decide))
  refine wp_iinc 1 #[.val (.ref o), .val (.double (0 : UInt64)), .second, .val (.int (0 : Int32)), .val (.int (3 : Int32))] D_prog_7_m5_41 rfl rfl (by rw [show (2 : Int32) + (1 : Int32) = (3 : Int32) from by decide]; rfl) ?_
  refine wp_goto D_prog_7_m5_44 (pc'' := 7) ⟨by decide, by decide⟩ ?_
  refine wp_iload D_prog_7_m5_7 rfl ?_
  refine wp_aload_n D_prog_7_m5_9 rfl rfl ?_
  refine wp_getfield D_prog_7_m5_10 (hw _ (List.mem_of_getElem? (i := 11) rfl)) (fld_new (i := 0) (fi := 0) rfl rfl rfl) ?_
  refine wp_lengthI (i := 1) (3 : Int32) D_prog_7_m5_13 rfl rfl ?_
  refine wp_icmp_ge D_prog_7_m5_14 (pc'' := 47) ⟨by decide, by decide⟩ (fun h7 => ?_) (fun h7 => by exact absurd h7 (by decide))
  refine wp_aload_n D_prog_7_m5_47 rfl rfl ?_
  refine wp_getfield D_prog_7_m5_48 (hw _ (List.mem_of_getElem? (i := 13) rfl)) (fld_new (i := 0) (fi := 1) rfl rfl rfl) ?_
  refine wp_if_ne D_prog_7_m5_51 (pc'' := 58) ⟨by decide, by decide⟩ (fun h8 => ?_) (fun h8 => ?_)
  · skip
    refine wp_dload_n D_prog_7_m5_58 rfl ?_
    refine wp_aload_n D_prog_7_m5_59 rfl rfl ?_
    refine wp_getfield D_prog_7_m5_60 (hw _ (List.mem_of_getElem? (i := 13) rfl)) (fld_new (i := 0) (fi := 1) rfl rfl rfl) ?_
    refine wp_i2d (FP.i2d n) D_prog_7_m5_63 rfl ?_
    refine wp_ddiv (FP.ddiv (0 : UInt64) (FP.i2d n)) D_prog_7_m5_64 (Jvm.Free.Fl.ddiv_out (by unfold Jvm.Free.Fl.NoNaN64; decide +kernel) (Jvm.Free.Fl.i2d_fin _) (Jvm.Free.Fl.i2d_nz h8)) rfl ?_
    refine wp_dreturn D_prog_7_m5_65 rfl (by decide) (by decide) ?_
    exact ⟨by rw [if_neg h8], rfl⟩
  · skip
    refine wp_dconst0 0 D_prog_7_m5_54 (by decide +kernel) ?_
    refine wp_goto D_prog_7_m5_55 (pc'' := 65) ⟨by decide, by decide⟩ ?_
    refine wp_dreturn D_prog_7_m5_65 rfl (by decide) (by decide) ?_
    exact ⟨by rw [if_pos h8], rfl⟩
def Q_c_ap_001 (o x : Addr) (n : Int32) (F : OH) : Option Value → OH → Prop := fun v H' => v = some (.double (if n = 0 then 0 else FP.ddiv (4599676419421066581 : UInt64) (FP.i2d n))) ∧ H' = ((o, oI "com/example/keyword_to_concept/keywordtoconcept/evaluation/RankedTopic" sg_1 [(.ref x), (.int n)]) :: (x, oA .boolean [(0 : Int32), (0 : Int32), (1 : Int32)]) :: F)
set_option maxRecDepth 65536 in
set_option maxHeartbeats 40000000 in
theorem c_ap_001 (l : Launch) (Z : State) (a0 : Array Value) (hw : ∀ d ∈ tables_1, d.before a0 Z = true) (o x : Addr) (n : Int32) (F : OH)  :
    Met l Z (⟨"com/example/keyword_to_concept/keywordtoconcept/evaluation/RankedTopic", "averagePrecision", "()D"⟩ : MethodName) prog_7_method_5_code 5 (some .double) ({ frames := 0, cells := 0, slots := 0, locals := 0 } : Room) [(.ref o)] ((o, oI "com/example/keyword_to_concept/keywordtoconcept/evaluation/RankedTopic" sg_1 [(.ref x), (.int n)]) :: (x, oA .boolean [(0 : Int32), (0 : Int32), (1 : Int32)]) :: F) (Q_c_ap_001 o x n F) := by
  refine Met.of_wp (Ls := #[.val (.ref o), .unset, .unset, .unset, .unset]) pn_2 (fun m => by first | rfl | (simp [entryFrame, mkF, argsToLocals, Value.category]; done)) ?_
  show Wp none l Z "com/example/keyword_to_concept/keywordtoconcept/evaluation/RankedTopic" "averagePrecision" prog_7_method_5_code 5 (some .double) ({ frames := 0, cells := 0, slots := 0, locals := 0 } : Room) ((o, oI "com/example/keyword_to_concept/keywordtoconcept/evaluation/RankedTopic" sg_1 [(.ref x), (.int n)]) :: (x, oA .boolean [(0 : Int32), (0 : Int32), (1 : Int32)]) :: F) 0 0 0 #[.val (.ref o), .unset, .unset, .unset, .unset] [] (Q_c_ap_001 o x n F)
  refine wp_dconst0 0 D_prog_7_m5_0 (by decide +kernel) ?_
  refine wp_dstore_n #[.val (.ref o), .val (.double (0 : UInt64)), .second, .unset, .unset] D_prog_7_m5_1 rfl ?_
  refine wp_iconst 0 D_prog_7_m5_2 (by decide) ?_
  refine wp_istore_n #[.val (.ref o), .val (.double (0 : UInt64)), .second, .val (.int (0 : Int32)), .unset] D_prog_7_m5_3 rfl ?_
  refine wp_iconst 0 D_prog_7_m5_4 (by decide) ?_
  refine wp_istore #[.val (.ref o), .val (.double (0 : UInt64)), .second, .val (.int (0 : Int32)), .val (.int (0 : Int32))] D_prog_7_m5_5 rfl ?_
  refine wp_iload D_prog_7_m5_7 rfl ?_
  refine wp_aload_n D_prog_7_m5_9 rfl rfl ?_
  refine wp_getfield D_prog_7_m5_10 (hw _ (List.mem_of_getElem? (i := 11) rfl)) (fld_new (i := 0) (fi := 0) rfl rfl rfl) ?_
  refine wp_lengthI (i := 1) (3 : Int32) D_prog_7_m5_13 rfl rfl ?_
  refine wp_icmp_ge D_prog_7_m5_14 (pc'' := 47) ⟨by decide, by decide⟩ (fun h1 => by exact absurd h1 (by decide)) (fun h1 => ?_)
  refine wp_aload_n D_prog_7_m5_17 rfl rfl ?_
  refine wp_getfield D_prog_7_m5_18 (hw _ (List.mem_of_getElem? (i := 11) rfl)) (fld_new (i := 0) (fi := 0) rfl rfl rfl) ?_
  refine wp_iload D_prog_7_m5_21 rfl ?_
  refine wp_zaload (i := 1) (0) D_prog_7_m5_23 rfl (by decide) (by decide) rfl ?_
  refine wp_if_eq D_prog_7_m5_24 (pc'' := 41) ⟨by decide, by decide⟩ (fun h2 => ?_) (fun h2 => by exact absurd h2 (by decide))
  refine wp_iinc 1 #[.val (.ref o), .val (.double (0 : UInt64)), .second, .val (.int (0 : Int32)), .val (.int (1 : Int32))] D_prog_7_m5_41 rfl rfl (by rw [show (0 : Int32) + (1 : Int32) = (1 : Int32) from by decide]; rfl) ?_
  refine wp_goto D_prog_7_m5_44 (pc'' := 7) ⟨by decide, by decide⟩ ?_
  refine wp_iload D_prog_7_m5_7 rfl ?_
  refine wp_aload_n D_prog_7_m5_9 rfl rfl ?_
  refine wp_getfield D_prog_7_m5_10 (hw _ (List.mem_of_getElem? (i := 11) rfl)) (fld_new (i := 0) (fi := 0) rfl rfl rfl) ?_
  refine wp_lengthI (i := 1) (3 : Int32) D_prog_7_m5_13 rfl rfl ?_
  refine wp_icmp_ge D_prog_7_m5_14 (pc'' := 47) ⟨by decide, by decide⟩ (fun h3 => by exact absurd h3 (by decide)) (fun h3 => ?_)
  refine wp_aload_n D_prog_7_m5_17 rfl rfl ?_
  refine wp_getfield D_prog_7_m5_18 (hw _ (List.mem_of_getElem? (i := 11) rfl)) (fld_new (i := 0) (fi := 0) rfl rfl rfl) ?_
  refine wp_iload D_prog_7_m5_21 rfl ?_
  refine wp_zaload (i := 1) (1) D_prog_7_m5_23 rfl (by decide) (by decide) rfl ?_
  refine wp_if_eq D_prog_7_m5_24 (pc'' := 41) ⟨by decide, by decide⟩ (fun h4 => ?_) (fun h4 => by exact absurd h4 (by decide))
  refine wp_iinc 1 #[.val (.ref o), .val (.double (0 : UInt64)), .second, .val (.int (0 : Int32)), .val (.int (2 : Int32))] D_prog_7_m5_41 rfl rfl (by rw [show (1 : Int32) + (1 : Int32) = (2 : Int32) from by decide]; rfl) ?_
  refine wp_goto D_prog_7_m5_44 (pc'' := 7) ⟨by decide, by decide⟩ ?_
  refine wp_iload D_prog_7_m5_7 rfl ?_
  refine wp_aload_n D_prog_7_m5_9 rfl rfl ?_
  refine wp_getfield D_prog_7_m5_10 (hw _ (List.mem_of_getElem? (i := 11) rfl)) (fld_new (i := 0) (fi := 0) rfl rfl rfl) ?_
  refine wp_lengthI (i := 1) (3 : Int32) D_prog_7_m5_13 rfl rfl ?_
  refine wp_icmp_ge D_prog_7_m5_14 (pc'' := 47) ⟨by decide, by decide⟩ (fun h5 => by exact absurd h5 (by decide)) (fun h5 => ?_)
  refine wp_aload_n D_prog_7_m5_17 rfl rfl ?_
  refine wp_getfield D_prog_7_m5_18 (hw _ (List.mem_of_getElem? (i := 11) rfl)) (fld_new (i := 0) (fi := 0) rfl rfl rfl) ?_
  refine wp_iload D_prog_7_m5_21 rfl ?_
  refine wp_zaload (i := 1) (2) D_prog_7_m5_23 rfl (by decide) (by decide) rfl ?_
  refine wp_if_eq D_prog_7_m5_24 (pc'' := 41) ⟨by decide, by decide⟩ (fun h6 => by exact absurd h6 (by decide)) (fun h6 => ?_)
  refine wp_iinc 1 #[.val (.ref o), .val (.double (0 : UInt64)), .second, .val (.int (1 : Int32)), .val (.int (2 : Int32))] D_prog_7_m5_27 rfl rfl (by rw [show (0 : Int32) + (1 : Int32) = (1 : Int32) from by decide]; rfl) ?_
  refine wp_dload_n D_prog_7_m5_30 rfl ?_
  refine wp_iload_n D_prog_7_m5_31 rfl ?_
  refine wp_i2d (4607182418800017408 : UInt64) D_prog_7_m5_32 (by decide +kernel) ?_
  refine wp_iload D_prog_7_m5_33 rfl ?_
  refine wp_iconst 1 D_prog_7_m5_35 (by decide) ?_
  refine wp_iadd D_prog_7_m5_36 ?_
  rw [show ((2 : Int32) + (1 : Int32)) = (3 : Int32) from by decide]
  refine wp_i2d (4613937818241073152 : UInt64) D_prog_7_m5_37 (by decide +kernel) ?_
  refine wp_ddiv (4599676419421066581 : UInt64) D_prog_7_m5_38 (by unfold Jvm.Free.Fl.NoNaN64; decide +kernel) (by decide +kernel) ?_
  refine wp_dadd (4599676419421066581 : UInt64) D_prog_7_m5_39 (by unfold Jvm.Free.Fl.NoNaN64; decide +kernel) (by decide +kernel) ?_
  refine wp_dstore_n #[.val (.ref o), .val (.double (4599676419421066581 : UInt64)), .second, .val (.int (1 : Int32)), .val (.int (2 : Int32))] D_prog_7_m5_40 rfl ?_
  refine wp_iinc 1 #[.val (.ref o), .val (.double (4599676419421066581 : UInt64)), .second, .val (.int (1 : Int32)), .val (.int (3 : Int32))] D_prog_7_m5_41 rfl rfl (by rw [show (2 : Int32) + (1 : Int32) = (3 : Int32) from by decide]; rfl) ?_
  refine wp_goto D_prog_7_m5_44 (pc'' := 7) ⟨by decide, by decide⟩ ?_
  refine wp_iload D_prog_7_m5_7 rfl ?_
  refine wp_aload_n D_prog_7_m5_9 rfl rfl ?_
  refine wp_getfield D_prog_7_m5_10 (hw _ (List.mem_of_getElem? (i := 11) rfl)) (fld_new (i := 0) (fi := 0) rfl rfl rfl) ?_
  refine wp_lengthI (i := 1) (3 : Int32) D_prog_7_m5_13 rfl rfl ?_
  refine wp_icmp_ge D_prog_7_m5_14 (pc'' := 47) ⟨by decide, by decide⟩ (fun h7 => ?_) (fun h7 => by exact absurd h7 (by decide))
  refine wp_aload_n D_prog_7_m5_47 rfl rfl ?_
  refine wp_getfield D_prog_7_m5_48 (hw _ (List.mem_of_getElem? (i := 13) rfl)) (fld_new (i := 0) (fi := 1) rfl rfl rfl) ?_
  refine wp_if_ne D_prog_7_m5_51 (pc'' := 58) ⟨by decide, by decide⟩ (fun h8 => ?_) (fun h8 => ?_)
  · skip
    refine wp_dload_n D_prog_7_m5_58 rfl ?_
    refine wp_aload_n D_prog_7_m5_59 rfl rfl ?_
    refine wp_getfield D_prog_7_m5_60 (hw _ (List.mem_of_getElem? (i := 13) rfl)) (fld_new (i := 0) (fi := 1) rfl rfl rfl) ?_
    refine wp_i2d (FP.i2d n) D_prog_7_m5_63 rfl ?_
    refine wp_ddiv (FP.ddiv (4599676419421066581 : UInt64) (FP.i2d n)) D_prog_7_m5_64 (Jvm.Free.Fl.ddiv_out (by unfold Jvm.Free.Fl.NoNaN64; decide +kernel) (Jvm.Free.Fl.i2d_fin _) (Jvm.Free.Fl.i2d_nz h8)) rfl ?_
    refine wp_dreturn D_prog_7_m5_65 rfl (by decide) (by decide) ?_
    exact ⟨by rw [if_neg h8], rfl⟩
  · skip
    refine wp_dconst0 0 D_prog_7_m5_54 (by decide +kernel) ?_
    refine wp_goto D_prog_7_m5_55 (pc'' := 65) ⟨by decide, by decide⟩ ?_
    refine wp_dreturn D_prog_7_m5_65 rfl (by decide) (by decide) ?_
    exact ⟨by rw [if_pos h8], rfl⟩
def Q_c_ap_010 (o x : Addr) (n : Int32) (F : OH) : Option Value → OH → Prop := fun v H' => v = some (.double (if n = 0 then 0 else FP.ddiv (4602678819172646912 : UInt64) (FP.i2d n))) ∧ H' = ((o, oI "com/example/keyword_to_concept/keywordtoconcept/evaluation/RankedTopic" sg_1 [(.ref x), (.int n)]) :: (x, oA .boolean [(0 : Int32), (1 : Int32), (0 : Int32)]) :: F)
set_option maxRecDepth 65536 in
set_option maxHeartbeats 40000000 in
theorem c_ap_010 (l : Launch) (Z : State) (a0 : Array Value) (hw : ∀ d ∈ tables_1, d.before a0 Z = true) (o x : Addr) (n : Int32) (F : OH)  :
    Met l Z (⟨"com/example/keyword_to_concept/keywordtoconcept/evaluation/RankedTopic", "averagePrecision", "()D"⟩ : MethodName) prog_7_method_5_code 5 (some .double) ({ frames := 0, cells := 0, slots := 0, locals := 0 } : Room) [(.ref o)] ((o, oI "com/example/keyword_to_concept/keywordtoconcept/evaluation/RankedTopic" sg_1 [(.ref x), (.int n)]) :: (x, oA .boolean [(0 : Int32), (1 : Int32), (0 : Int32)]) :: F) (Q_c_ap_010 o x n F) := by
  refine Met.of_wp (Ls := #[.val (.ref o), .unset, .unset, .unset, .unset]) pn_2 (fun m => by first | rfl | (simp [entryFrame, mkF, argsToLocals, Value.category]; done)) ?_
  show Wp none l Z "com/example/keyword_to_concept/keywordtoconcept/evaluation/RankedTopic" "averagePrecision" prog_7_method_5_code 5 (some .double) ({ frames := 0, cells := 0, slots := 0, locals := 0 } : Room) ((o, oI "com/example/keyword_to_concept/keywordtoconcept/evaluation/RankedTopic" sg_1 [(.ref x), (.int n)]) :: (x, oA .boolean [(0 : Int32), (1 : Int32), (0 : Int32)]) :: F) 0 0 0 #[.val (.ref o), .unset, .unset, .unset, .unset] [] (Q_c_ap_010 o x n F)
  refine wp_dconst0 0 D_prog_7_m5_0 (by decide +kernel) ?_
  refine wp_dstore_n #[.val (.ref o), .val (.double (0 : UInt64)), .second, .unset, .unset] D_prog_7_m5_1 rfl ?_
  refine wp_iconst 0 D_prog_7_m5_2 (by decide) ?_
  refine wp_istore_n #[.val (.ref o), .val (.double (0 : UInt64)), .second, .val (.int (0 : Int32)), .unset] D_prog_7_m5_3 rfl ?_
  refine wp_iconst 0 D_prog_7_m5_4 (by decide) ?_
  refine wp_istore #[.val (.ref o), .val (.double (0 : UInt64)), .second, .val (.int (0 : Int32)), .val (.int (0 : Int32))] D_prog_7_m5_5 rfl ?_
  refine wp_iload D_prog_7_m5_7 rfl ?_
  refine wp_aload_n D_prog_7_m5_9 rfl rfl ?_
  refine wp_getfield D_prog_7_m5_10 (hw _ (List.mem_of_getElem? (i := 11) rfl)) (fld_new (i := 0) (fi := 0) rfl rfl rfl) ?_
  refine wp_lengthI (i := 1) (3 : Int32) D_prog_7_m5_13 rfl rfl ?_
  refine wp_icmp_ge D_prog_7_m5_14 (pc'' := 47) ⟨by decide, by decide⟩ (fun h1 => by exact absurd h1 (by decide)) (fun h1 => ?_)
  refine wp_aload_n D_prog_7_m5_17 rfl rfl ?_
  refine wp_getfield D_prog_7_m5_18 (hw _ (List.mem_of_getElem? (i := 11) rfl)) (fld_new (i := 0) (fi := 0) rfl rfl rfl) ?_
  refine wp_iload D_prog_7_m5_21 rfl ?_
  refine wp_zaload (i := 1) (0) D_prog_7_m5_23 rfl (by decide) (by decide) rfl ?_
  refine wp_if_eq D_prog_7_m5_24 (pc'' := 41) ⟨by decide, by decide⟩ (fun h2 => ?_) (fun h2 => by exact absurd h2 (by decide))
  refine wp_iinc 1 #[.val (.ref o), .val (.double (0 : UInt64)), .second, .val (.int (0 : Int32)), .val (.int (1 : Int32))] D_prog_7_m5_41 rfl rfl (by rw [show (0 : Int32) + (1 : Int32) = (1 : Int32) from by decide]; rfl) ?_
  refine wp_goto D_prog_7_m5_44 (pc'' := 7) ⟨by decide, by decide⟩ ?_
  refine wp_iload D_prog_7_m5_7 rfl ?_
  refine wp_aload_n D_prog_7_m5_9 rfl rfl ?_
  refine wp_getfield D_prog_7_m5_10 (hw _ (List.mem_of_getElem? (i := 11) rfl)) (fld_new (i := 0) (fi := 0) rfl rfl rfl) ?_
  refine wp_lengthI (i := 1) (3 : Int32) D_prog_7_m5_13 rfl rfl ?_
  refine wp_icmp_ge D_prog_7_m5_14 (pc'' := 47) ⟨by decide, by decide⟩ (fun h3 => by exact absurd h3 (by decide)) (fun h3 => ?_)
  refine wp_aload_n D_prog_7_m5_17 rfl rfl ?_
  refine wp_getfield D_prog_7_m5_18 (hw _ (List.mem_of_getElem? (i := 11) rfl)) (fld_new (i := 0) (fi := 0) rfl rfl rfl) ?_
  refine wp_iload D_prog_7_m5_21 rfl ?_
  refine wp_zaload (i := 1) (1) D_prog_7_m5_23 rfl (by decide) (by decide) rfl ?_
  refine wp_if_eq D_prog_7_m5_24 (pc'' := 41) ⟨by decide, by decide⟩ (fun h4 => by exact absurd h4 (by decide)) (fun h4 => ?_)
  refine wp_iinc 1 #[.val (.ref o), .val (.double (0 : UInt64)), .second, .val (.int (1 : Int32)), .val (.int (1 : Int32))] D_prog_7_m5_27 rfl rfl (by rw [show (0 : Int32) + (1 : Int32) = (1 : Int32) from by decide]; rfl) ?_
  refine wp_dload_n D_prog_7_m5_30 rfl ?_
  refine wp_iload_n D_prog_7_m5_31 rfl ?_
  refine wp_i2d (4607182418800017408 : UInt64) D_prog_7_m5_32 (by decide +kernel) ?_
  refine wp_iload D_prog_7_m5_33 rfl ?_
  refine wp_iconst 1 D_prog_7_m5_35 (by decide) ?_
  refine wp_iadd D_prog_7_m5_36 ?_
  rw [show ((1 : Int32) + (1 : Int32)) = (2 : Int32) from by decide]
  refine wp_i2d (4611686018427387904 : UInt64) D_prog_7_m5_37 (by decide +kernel) ?_
  refine wp_ddiv (4602678819172646912 : UInt64) D_prog_7_m5_38 (by unfold Jvm.Free.Fl.NoNaN64; decide +kernel) (by decide +kernel) ?_
  refine wp_dadd (4602678819172646912 : UInt64) D_prog_7_m5_39 (by unfold Jvm.Free.Fl.NoNaN64; decide +kernel) (by decide +kernel) ?_
  refine wp_dstore_n #[.val (.ref o), .val (.double (4602678819172646912 : UInt64)), .second, .val (.int (1 : Int32)), .val (.int (1 : Int32))] D_prog_7_m5_40 rfl ?_
  refine wp_iinc 1 #[.val (.ref o), .val (.double (4602678819172646912 : UInt64)), .second, .val (.int (1 : Int32)), .val (.int (2 : Int32))] D_prog_7_m5_41 rfl rfl (by rw [show (1 : Int32) + (1 : Int32) = (2 : Int32) from by decide]; rfl) ?_
  refine wp_goto D_prog_7_m5_44 (pc'' := 7) ⟨by decide, by decide⟩ ?_
  refine wp_iload D_prog_7_m5_7 rfl ?_
  refine wp_aload_n D_prog_7_m5_9 rfl rfl ?_
  refine wp_getfield D_prog_7_m5_10 (hw _ (List.mem_of_getElem? (i := 11) rfl)) (fld_new (i := 0) (fi := 0) rfl rfl rfl) ?_
  refine wp_lengthI (i := 1) (3 : Int32) D_prog_7_m5_13 rfl rfl ?_
  refine wp_icmp_ge D_prog_7_m5_14 (pc'' := 47) ⟨by decide, by decide⟩ (fun h5 => by exact absurd h5 (by decide)) (fun h5 => ?_)
  refine wp_aload_n D_prog_7_m5_17 rfl rfl ?_
  refine wp_getfield D_prog_7_m5_18 (hw _ (List.mem_of_getElem? (i := 11) rfl)) (fld_new (i := 0) (fi := 0) rfl rfl rfl) ?_
  refine wp_iload D_prog_7_m5_21 rfl ?_
  refine wp_zaload (i := 1) (2) D_prog_7_m5_23 rfl (by decide) (by decide) rfl ?_
  refine wp_if_eq D_prog_7_m5_24 (pc'' := 41) ⟨by decide, by decide⟩ (fun h6 => ?_) (fun h6 => by exact absurd h6 (by decide))
  refine wp_iinc 1 #[.val (.ref o), .val (.double (4602678819172646912 : UInt64)), .second, .val (.int (1 : Int32)), .val (.int (3 : Int32))] D_prog_7_m5_41 rfl rfl (by rw [show (2 : Int32) + (1 : Int32) = (3 : Int32) from by decide]; rfl) ?_
  refine wp_goto D_prog_7_m5_44 (pc'' := 7) ⟨by decide, by decide⟩ ?_
  refine wp_iload D_prog_7_m5_7 rfl ?_
  refine wp_aload_n D_prog_7_m5_9 rfl rfl ?_
  refine wp_getfield D_prog_7_m5_10 (hw _ (List.mem_of_getElem? (i := 11) rfl)) (fld_new (i := 0) (fi := 0) rfl rfl rfl) ?_
  refine wp_lengthI (i := 1) (3 : Int32) D_prog_7_m5_13 rfl rfl ?_
  refine wp_icmp_ge D_prog_7_m5_14 (pc'' := 47) ⟨by decide, by decide⟩ (fun h7 => ?_) (fun h7 => by exact absurd h7 (by decide))
  refine wp_aload_n D_prog_7_m5_47 rfl rfl ?_
  refine wp_getfield D_prog_7_m5_48 (hw _ (List.mem_of_getElem? (i := 13) rfl)) (fld_new (i := 0) (fi := 1) rfl rfl rfl) ?_
  refine wp_if_ne D_prog_7_m5_51 (pc'' := 58) ⟨by decide, by decide⟩ (fun h8 => ?_) (fun h8 => ?_)
  · skip
    refine wp_dload_n D_prog_7_m5_58 rfl ?_
    refine wp_aload_n D_prog_7_m5_59 rfl rfl ?_
    refine wp_getfield D_prog_7_m5_60 (hw _ (List.mem_of_getElem? (i := 13) rfl)) (fld_new (i := 0) (fi := 1) rfl rfl rfl) ?_
    refine wp_i2d (FP.i2d n) D_prog_7_m5_63 rfl ?_
    refine wp_ddiv (FP.ddiv (4602678819172646912 : UInt64) (FP.i2d n)) D_prog_7_m5_64 (Jvm.Free.Fl.ddiv_out (by unfold Jvm.Free.Fl.NoNaN64; decide +kernel) (Jvm.Free.Fl.i2d_fin _) (Jvm.Free.Fl.i2d_nz h8)) rfl ?_
    refine wp_dreturn D_prog_7_m5_65 rfl (by decide) (by decide) ?_
    exact ⟨by rw [if_neg h8], rfl⟩
  · skip
    refine wp_dconst0 0 D_prog_7_m5_54 (by decide +kernel) ?_
    refine wp_goto D_prog_7_m5_55 (pc'' := 65) ⟨by decide, by decide⟩ ?_
    refine wp_dreturn D_prog_7_m5_65 rfl (by decide) (by decide) ?_
    exact ⟨by rw [if_pos h8], rfl⟩
def Q_c_ap_011 (o x : Addr) (n : Int32) (F : OH) : Option Value → OH → Prop := fun v H' => v = some (.double (if n = 0 then 0 else FP.ddiv (4607933018737912490 : UInt64) (FP.i2d n))) ∧ H' = ((o, oI "com/example/keyword_to_concept/keywordtoconcept/evaluation/RankedTopic" sg_1 [(.ref x), (.int n)]) :: (x, oA .boolean [(0 : Int32), (1 : Int32), (1 : Int32)]) :: F)
set_option maxRecDepth 65536 in
set_option maxHeartbeats 40000000 in
theorem c_ap_011 (l : Launch) (Z : State) (a0 : Array Value) (hw : ∀ d ∈ tables_1, d.before a0 Z = true) (o x : Addr) (n : Int32) (F : OH)  :
    Met l Z (⟨"com/example/keyword_to_concept/keywordtoconcept/evaluation/RankedTopic", "averagePrecision", "()D"⟩ : MethodName) prog_7_method_5_code 5 (some .double) ({ frames := 0, cells := 0, slots := 0, locals := 0 } : Room) [(.ref o)] ((o, oI "com/example/keyword_to_concept/keywordtoconcept/evaluation/RankedTopic" sg_1 [(.ref x), (.int n)]) :: (x, oA .boolean [(0 : Int32), (1 : Int32), (1 : Int32)]) :: F) (Q_c_ap_011 o x n F) := by
  refine Met.of_wp (Ls := #[.val (.ref o), .unset, .unset, .unset, .unset]) pn_2 (fun m => by first | rfl | (simp [entryFrame, mkF, argsToLocals, Value.category]; done)) ?_
  show Wp none l Z "com/example/keyword_to_concept/keywordtoconcept/evaluation/RankedTopic" "averagePrecision" prog_7_method_5_code 5 (some .double) ({ frames := 0, cells := 0, slots := 0, locals := 0 } : Room) ((o, oI "com/example/keyword_to_concept/keywordtoconcept/evaluation/RankedTopic" sg_1 [(.ref x), (.int n)]) :: (x, oA .boolean [(0 : Int32), (1 : Int32), (1 : Int32)]) :: F) 0 0 0 #[.val (.ref o), .unset, .unset, .unset, .unset] [] (Q_c_ap_011 o x n F)
  refine wp_dconst0 0 D_prog_7_m5_0 (by decide +kernel) ?_
  refine wp_dstore_n #[.val (.ref o), .val (.double (0 : UInt64)), .second, .unset, .unset] D_prog_7_m5_1 rfl ?_
  refine wp_iconst 0 D_prog_7_m5_2 (by decide) ?_
  refine wp_istore_n #[.val (.ref o), .val (.double (0 : UInt64)), .second, .val (.int (0 : Int32)), .unset] D_prog_7_m5_3 rfl ?_
  refine wp_iconst 0 D_prog_7_m5_4 (by decide) ?_
  refine wp_istore #[.val (.ref o), .val (.double (0 : UInt64)), .second, .val (.int (0 : Int32)), .val (.int (0 : Int32))] D_prog_7_m5_5 rfl ?_
  refine wp_iload D_prog_7_m5_7 rfl ?_
  refine wp_aload_n D_prog_7_m5_9 rfl rfl ?_
  refine wp_getfield D_prog_7_m5_10 (hw _ (List.mem_of_getElem? (i := 11) rfl)) (fld_new (i := 0) (fi := 0) rfl rfl rfl) ?_
  refine wp_lengthI (i := 1) (3 : Int32) D_prog_7_m5_13 rfl rfl ?_
  refine wp_icmp_ge D_prog_7_m5_14 (pc'' := 47) ⟨by decide, by decide⟩ (fun h1 => by exact absurd h1 (by decide)) (fun h1 => ?_)
  refine wp_aload_n D_prog_7_m5_17 rfl rfl ?_
  refine wp_getfield D_prog_7_m5_18 (hw _ (List.mem_of_getElem? (i := 11) rfl)) (fld_new (i := 0) (fi := 0) rfl rfl rfl) ?_
  refine wp_iload D_prog_7_m5_21 rfl ?_
  refine wp_zaload (i := 1) (0) D_prog_7_m5_23 rfl (by decide) (by decide) rfl ?_
  refine wp_if_eq D_prog_7_m5_24 (pc'' := 41) ⟨by decide, by decide⟩ (fun h2 => ?_) (fun h2 => by exact absurd h2 (by decide))
  refine wp_iinc 1 #[.val (.ref o), .val (.double (0 : UInt64)), .second, .val (.int (0 : Int32)), .val (.int (1 : Int32))] D_prog_7_m5_41 rfl rfl (by rw [show (0 : Int32) + (1 : Int32) = (1 : Int32) from by decide]; rfl) ?_
  refine wp_goto D_prog_7_m5_44 (pc'' := 7) ⟨by decide, by decide⟩ ?_
  refine wp_iload D_prog_7_m5_7 rfl ?_
  refine wp_aload_n D_prog_7_m5_9 rfl rfl ?_
  refine wp_getfield D_prog_7_m5_10 (hw _ (List.mem_of_getElem? (i := 11) rfl)) (fld_new (i := 0) (fi := 0) rfl rfl rfl) ?_
  refine wp_lengthI (i := 1) (3 : Int32) D_prog_7_m5_13 rfl rfl ?_
  refine wp_icmp_ge D_prog_7_m5_14 (pc'' := 47) ⟨by decide, by decide⟩ (fun h3 => by exact absurd h3 (by decide)) (fun h3 => ?_)
  refine wp_aload_n D_prog_7_m5_17 rfl rfl ?_
  refine wp_getfield D_prog_7_m5_18 (hw _ (List.mem_of_getElem? (i := 11) rfl)) (fld_new (i := 0) (fi := 0) rfl rfl rfl) ?_
  refine wp_iload D_prog_7_m5_21 rfl ?_
  refine wp_zaload (i := 1) (1) D_prog_7_m5_23 rfl (by decide) (by decide) rfl ?_
  refine wp_if_eq D_prog_7_m5_24 (pc'' := 41) ⟨by decide, by decide⟩ (fun h4 => by exact absurd h4 (by decide)) (fun h4 => ?_)
  refine wp_iinc 1 #[.val (.ref o), .val (.double (0 : UInt64)), .second, .val (.int (1 : Int32)), .val (.int (1 : Int32))] D_prog_7_m5_27 rfl rfl (by rw [show (0 : Int32) + (1 : Int32) = (1 : Int32) from by decide]; rfl) ?_
  refine wp_dload_n D_prog_7_m5_30 rfl ?_
  refine wp_iload_n D_prog_7_m5_31 rfl ?_
  refine wp_i2d (4607182418800017408 : UInt64) D_prog_7_m5_32 (by decide +kernel) ?_
  refine wp_iload D_prog_7_m5_33 rfl ?_
  refine wp_iconst 1 D_prog_7_m5_35 (by decide) ?_
  refine wp_iadd D_prog_7_m5_36 ?_
  rw [show ((1 : Int32) + (1 : Int32)) = (2 : Int32) from by decide]
  refine wp_i2d (4611686018427387904 : UInt64) D_prog_7_m5_37 (by decide +kernel) ?_
  refine wp_ddiv (4602678819172646912 : UInt64) D_prog_7_m5_38 (by unfold Jvm.Free.Fl.NoNaN64; decide +kernel) (by decide +kernel) ?_
  refine wp_dadd (4602678819172646912 : UInt64) D_prog_7_m5_39 (by unfold Jvm.Free.Fl.NoNaN64; decide +kernel) (by decide +kernel) ?_
  refine wp_dstore_n #[.val (.ref o), .val (.double (4602678819172646912 : UInt64)), .second, .val (.int (1 : Int32)), .val (.int (1 : Int32))] D_prog_7_m5_40 rfl ?_
  refine wp_iinc 1 #[.val (.ref o), .val (.double (4602678819172646912 : UInt64)), .second, .val (.int (1 : Int32)), .val (.int (2 : Int32))] D_prog_7_m5_41 rfl rfl (by rw [show (1 : Int32) + (1 : Int32) = (2 : Int32) from by decide]; rfl) ?_
  refine wp_goto D_prog_7_m5_44 (pc'' := 7) ⟨by decide, by decide⟩ ?_
  refine wp_iload D_prog_7_m5_7 rfl ?_
  refine wp_aload_n D_prog_7_m5_9 rfl rfl ?_
  refine wp_getfield D_prog_7_m5_10 (hw _ (List.mem_of_getElem? (i := 11) rfl)) (fld_new (i := 0) (fi := 0) rfl rfl rfl) ?_
  refine wp_lengthI (i := 1) (3 : Int32) D_prog_7_m5_13 rfl rfl ?_
  refine wp_icmp_ge D_prog_7_m5_14 (pc'' := 47) ⟨by decide, by decide⟩ (fun h5 => by exact absurd h5 (by decide)) (fun h5 => ?_)
  refine wp_aload_n D_prog_7_m5_17 rfl rfl ?_
  refine wp_getfield D_prog_7_m5_18 (hw _ (List.mem_of_getElem? (i := 11) rfl)) (fld_new (i := 0) (fi := 0) rfl rfl rfl) ?_
  refine wp_iload D_prog_7_m5_21 rfl ?_
  refine wp_zaload (i := 1) (2) D_prog_7_m5_23 rfl (by decide) (by decide) rfl ?_
  refine wp_if_eq D_prog_7_m5_24 (pc'' := 41) ⟨by decide, by decide⟩ (fun h6 => by exact absurd h6 (by decide)) (fun h6 => ?_)
  refine wp_iinc 1 #[.val (.ref o), .val (.double (4602678819172646912 : UInt64)), .second, .val (.int (2 : Int32)), .val (.int (2 : Int32))] D_prog_7_m5_27 rfl rfl (by rw [show (1 : Int32) + (1 : Int32) = (2 : Int32) from by decide]; rfl) ?_
  refine wp_dload_n D_prog_7_m5_30 rfl ?_
  refine wp_iload_n D_prog_7_m5_31 rfl ?_
  refine wp_i2d (4611686018427387904 : UInt64) D_prog_7_m5_32 (by decide +kernel) ?_
  refine wp_iload D_prog_7_m5_33 rfl ?_
  refine wp_iconst 1 D_prog_7_m5_35 (by decide) ?_
  refine wp_iadd D_prog_7_m5_36 ?_
  rw [show ((2 : Int32) + (1 : Int32)) = (3 : Int32) from by decide]
  refine wp_i2d (4613937818241073152 : UInt64) D_prog_7_m5_37 (by decide +kernel) ?_
  refine wp_ddiv (4604180019048437077 : UInt64) D_prog_7_m5_38 (by unfold Jvm.Free.Fl.NoNaN64; decide +kernel) (by decide +kernel) ?_
  refine wp_dadd (4607933018737912490 : UInt64) D_prog_7_m5_39 (by unfold Jvm.Free.Fl.NoNaN64; decide +kernel) (by decide +kernel) ?_
  refine wp_dstore_n #[.val (.ref o), .val (.double (4607933018737912490 : UInt64)), .second, .val (.int (2 : Int32)), .val (.int (2 : Int32))] D_prog_7_m5_40 rfl ?_
  refine wp_iinc 1 #[.val (.ref o), .val (.double (4607933018737912490 : UInt64)), .second, .val (.int (2 : Int32)), .val (.int (3 : Int32))] D_prog_7_m5_41 rfl rfl (by rw [show (2 : Int32) + (1 : Int32) = (3 : Int32) from by decide]; rfl) ?_
  refine wp_goto D_prog_7_m5_44 (pc'' := 7) ⟨by decide, by decide⟩ ?_
  refine wp_iload D_prog_7_m5_7 rfl ?_
  refine wp_aload_n D_prog_7_m5_9 rfl rfl ?_
  refine wp_getfield D_prog_7_m5_10 (hw _ (List.mem_of_getElem? (i := 11) rfl)) (fld_new (i := 0) (fi := 0) rfl rfl rfl) ?_
  refine wp_lengthI (i := 1) (3 : Int32) D_prog_7_m5_13 rfl rfl ?_
  refine wp_icmp_ge D_prog_7_m5_14 (pc'' := 47) ⟨by decide, by decide⟩ (fun h7 => ?_) (fun h7 => by exact absurd h7 (by decide))
  refine wp_aload_n D_prog_7_m5_47 rfl rfl ?_
  refine wp_getfield D_prog_7_m5_48 (hw _ (List.mem_of_getElem? (i := 13) rfl)) (fld_new (i := 0) (fi := 1) rfl rfl rfl) ?_
  refine wp_if_ne D_prog_7_m5_51 (pc'' := 58) ⟨by decide, by decide⟩ (fun h8 => ?_) (fun h8 => ?_)
  · skip
    refine wp_dload_n D_prog_7_m5_58 rfl ?_
    refine wp_aload_n D_prog_7_m5_59 rfl rfl ?_
    refine wp_getfield D_prog_7_m5_60 (hw _ (List.mem_of_getElem? (i := 13) rfl)) (fld_new (i := 0) (fi := 1) rfl rfl rfl) ?_
    refine wp_i2d (FP.i2d n) D_prog_7_m5_63 rfl ?_
    refine wp_ddiv (FP.ddiv (4607933018737912490 : UInt64) (FP.i2d n)) D_prog_7_m5_64 (Jvm.Free.Fl.ddiv_out (by unfold Jvm.Free.Fl.NoNaN64; decide +kernel) (Jvm.Free.Fl.i2d_fin _) (Jvm.Free.Fl.i2d_nz h8)) rfl ?_
    refine wp_dreturn D_prog_7_m5_65 rfl (by decide) (by decide) ?_
    exact ⟨by rw [if_neg h8], rfl⟩
  · skip
    refine wp_dconst0 0 D_prog_7_m5_54 (by decide +kernel) ?_
    refine wp_goto D_prog_7_m5_55 (pc'' := 65) ⟨by decide, by decide⟩ ?_
    refine wp_dreturn D_prog_7_m5_65 rfl (by decide) (by decide) ?_
    exact ⟨by rw [if_pos h8], rfl⟩
def Q_c_ap_100 (o x : Addr) (n : Int32) (F : OH) : Option Value → OH → Prop := fun v H' => v = some (.double (if n = 0 then 0 else FP.ddiv (4607182418800017408 : UInt64) (FP.i2d n))) ∧ H' = ((o, oI "com/example/keyword_to_concept/keywordtoconcept/evaluation/RankedTopic" sg_1 [(.ref x), (.int n)]) :: (x, oA .boolean [(1 : Int32), (0 : Int32), (0 : Int32)]) :: F)
set_option maxRecDepth 65536 in
set_option maxHeartbeats 40000000 in
theorem c_ap_100 (l : Launch) (Z : State) (a0 : Array Value) (hw : ∀ d ∈ tables_1, d.before a0 Z = true) (o x : Addr) (n : Int32) (F : OH)  :
    Met l Z (⟨"com/example/keyword_to_concept/keywordtoconcept/evaluation/RankedTopic", "averagePrecision", "()D"⟩ : MethodName) prog_7_method_5_code 5 (some .double) ({ frames := 0, cells := 0, slots := 0, locals := 0 } : Room) [(.ref o)] ((o, oI "com/example/keyword_to_concept/keywordtoconcept/evaluation/RankedTopic" sg_1 [(.ref x), (.int n)]) :: (x, oA .boolean [(1 : Int32), (0 : Int32), (0 : Int32)]) :: F) (Q_c_ap_100 o x n F) := by
  refine Met.of_wp (Ls := #[.val (.ref o), .unset, .unset, .unset, .unset]) pn_2 (fun m => by first | rfl | (simp [entryFrame, mkF, argsToLocals, Value.category]; done)) ?_
  show Wp none l Z "com/example/keyword_to_concept/keywordtoconcept/evaluation/RankedTopic" "averagePrecision" prog_7_method_5_code 5 (some .double) ({ frames := 0, cells := 0, slots := 0, locals := 0 } : Room) ((o, oI "com/example/keyword_to_concept/keywordtoconcept/evaluation/RankedTopic" sg_1 [(.ref x), (.int n)]) :: (x, oA .boolean [(1 : Int32), (0 : Int32), (0 : Int32)]) :: F) 0 0 0 #[.val (.ref o), .unset, .unset, .unset, .unset] [] (Q_c_ap_100 o x n F)
  refine wp_dconst0 0 D_prog_7_m5_0 (by decide +kernel) ?_
  refine wp_dstore_n #[.val (.ref o), .val (.double (0 : UInt64)), .second, .unset, .unset] D_prog_7_m5_1 rfl ?_
  refine wp_iconst 0 D_prog_7_m5_2 (by decide) ?_
  refine wp_istore_n #[.val (.ref o), .val (.double (0 : UInt64)), .second, .val (.int (0 : Int32)), .unset] D_prog_7_m5_3 rfl ?_
  refine wp_iconst 0 D_prog_7_m5_4 (by decide) ?_
  refine wp_istore #[.val (.ref o), .val (.double (0 : UInt64)), .second, .val (.int (0 : Int32)), .val (.int (0 : Int32))] D_prog_7_m5_5 rfl ?_
  refine wp_iload D_prog_7_m5_7 rfl ?_
  refine wp_aload_n D_prog_7_m5_9 rfl rfl ?_
  refine wp_getfield D_prog_7_m5_10 (hw _ (List.mem_of_getElem? (i := 11) rfl)) (fld_new (i := 0) (fi := 0) rfl rfl rfl) ?_
  refine wp_lengthI (i := 1) (3 : Int32) D_prog_7_m5_13 rfl rfl ?_
  refine wp_icmp_ge D_prog_7_m5_14 (pc'' := 47) ⟨by decide, by decide⟩ (fun h1 => by exact absurd h1 (by decide)) (fun h1 => ?_)
  refine wp_aload_n D_prog_7_m5_17 rfl rfl ?_
  refine wp_getfield D_prog_7_m5_18 (hw _ (List.mem_of_getElem? (i := 11) rfl)) (fld_new (i := 0) (fi := 0) rfl rfl rfl) ?_
  refine wp_iload D_prog_7_m5_21 rfl ?_
  refine wp_zaload (i := 1) (0) D_prog_7_m5_23 rfl (by decide) (by decide) rfl ?_
  refine wp_if_eq D_prog_7_m5_24 (pc'' := 41) ⟨by decide, by decide⟩ (fun h2 => by exact absurd h2 (by decide)) (fun h2 => ?_)
  refine wp_iinc 1 #[.val (.ref o), .val (.double (0 : UInt64)), .second, .val (.int (1 : Int32)), .val (.int (0 : Int32))] D_prog_7_m5_27 rfl rfl (by rw [show (0 : Int32) + (1 : Int32) = (1 : Int32) from by decide]; rfl) ?_
  refine wp_dload_n D_prog_7_m5_30 rfl ?_
  refine wp_iload_n D_prog_7_m5_31 rfl ?_
  refine wp_i2d (4607182418800017408 : UInt64) D_prog_7_m5_32 (by decide +kernel) ?_
  refine wp_iload D_prog_7_m5_33 rfl ?_
  refine wp_iconst 1 D_prog_7_m5_35 (by decide) ?_
  refine wp_iadd D_prog_7_m5_36 ?_
  rw [show ((0 : Int32) + (1 : Int32)) = (1 : Int32) from by decide]
  refine wp_i2d (4607182418800017408 : UInt64) D_prog_7_m5_37 (by decide +kernel) ?_
  refine wp_ddiv (4607182418800017408 : UInt64) D_prog_7_m5_38 (by unfold Jvm.Free.Fl.NoNaN64; decide +kernel) (by decide +kernel) ?_
  refine wp_dadd (4607182418800017408 : UInt64) D_prog_7_m5_39 (by unfold Jvm.Free.Fl.NoNaN64; decide +kernel) (by decide +kernel) ?_
  refine wp_dstore_n #[.val (.ref o), .val (.double (4607182418800017408 : UInt64)), .second, .val (.int (1 : Int32)), .val (.int (0 : Int32))] D_prog_7_m5_40 rfl ?_
  refine wp_iinc 1 #[.val (.ref o), .val (.double (4607182418800017408 : UInt64)), .second, .val (.int (1 : Int32)), .val (.int (1 : Int32))] D_prog_7_m5_41 rfl rfl (by rw [show (0 : Int32) + (1 : Int32) = (1 : Int32) from by decide]; rfl) ?_
  refine wp_goto D_prog_7_m5_44 (pc'' := 7) ⟨by decide, by decide⟩ ?_
  refine wp_iload D_prog_7_m5_7 rfl ?_
  refine wp_aload_n D_prog_7_m5_9 rfl rfl ?_
  refine wp_getfield D_prog_7_m5_10 (hw _ (List.mem_of_getElem? (i := 11) rfl)) (fld_new (i := 0) (fi := 0) rfl rfl rfl) ?_
  refine wp_lengthI (i := 1) (3 : Int32) D_prog_7_m5_13 rfl rfl ?_
  refine wp_icmp_ge D_prog_7_m5_14 (pc'' := 47) ⟨by decide, by decide⟩ (fun h3 => by exact absurd h3 (by decide)) (fun h3 => ?_)
  refine wp_aload_n D_prog_7_m5_17 rfl rfl ?_
  refine wp_getfield D_prog_7_m5_18 (hw _ (List.mem_of_getElem? (i := 11) rfl)) (fld_new (i := 0) (fi := 0) rfl rfl rfl) ?_
  refine wp_iload D_prog_7_m5_21 rfl ?_
  refine wp_zaload (i := 1) (1) D_prog_7_m5_23 rfl (by decide) (by decide) rfl ?_
  refine wp_if_eq D_prog_7_m5_24 (pc'' := 41) ⟨by decide, by decide⟩ (fun h4 => ?_) (fun h4 => by exact absurd h4 (by decide))
  refine wp_iinc 1 #[.val (.ref o), .val (.double (4607182418800017408 : UInt64)), .second, .val (.int (1 : Int32)), .val (.int (2 : Int32))] D_prog_7_m5_41 rfl rfl (by rw [show (1 : Int32) + (1 : Int32) = (2 : Int32) from by decide]; rfl) ?_
  refine wp_goto D_prog_7_m5_44 (pc'' := 7) ⟨by decide, by decide⟩ ?_
  refine wp_iload D_prog_7_m5_7 rfl ?_
  refine wp_aload_n D_prog_7_m5_9 rfl rfl ?_
  refine wp_getfield D_prog_7_m5_10 (hw _ (List.mem_of_getElem? (i := 11) rfl)) (fld_new (i := 0) (fi := 0) rfl rfl rfl) ?_
  refine wp_lengthI (i := 1) (3 : Int32) D_prog_7_m5_13 rfl rfl ?_
  refine wp_icmp_ge D_prog_7_m5_14 (pc'' := 47) ⟨by decide, by decide⟩ (fun h5 => by exact absurd h5 (by decide)) (fun h5 => ?_)
  refine wp_aload_n D_prog_7_m5_17 rfl rfl ?_
  refine wp_getfield D_prog_7_m5_18 (hw _ (List.mem_of_getElem? (i := 11) rfl)) (fld_new (i := 0) (fi := 0) rfl rfl rfl) ?_
  refine wp_iload D_prog_7_m5_21 rfl ?_
  refine wp_zaload (i := 1) (2) D_prog_7_m5_23 rfl (by decide) (by decide) rfl ?_
  refine wp_if_eq D_prog_7_m5_24 (pc'' := 41) ⟨by decide, by decide⟩ (fun h6 => ?_) (fun h6 => by exact absurd h6 (by decide))
  refine wp_iinc 1 #[.val (.ref o), .val (.double (4607182418800017408 : UInt64)), .second, .val (.int (1 : Int32)), .val (.int (3 : Int32))] D_prog_7_m5_41 rfl rfl (by rw [show (2 : Int32) + (1 : Int32) = (3 : Int32) from by decide]; rfl) ?_
  refine wp_goto D_prog_7_m5_44 (pc'' := 7) ⟨by decide, by decide⟩ ?_
  refine wp_iload D_prog_7_m5_7 rfl ?_
  refine wp_aload_n D_prog_7_m5_9 rfl rfl ?_
  refine wp_getfield D_prog_7_m5_10 (hw _ (List.mem_of_getElem? (i := 11) rfl)) (fld_new (i := 0) (fi := 0) rfl rfl rfl) ?_
  refine wp_lengthI (i := 1) (3 : Int32) D_prog_7_m5_13 rfl rfl ?_
  refine wp_icmp_ge D_prog_7_m5_14 (pc'' := 47) ⟨by decide, by decide⟩ (fun h7 => ?_) (fun h7 => by exact absurd h7 (by decide))
  refine wp_aload_n D_prog_7_m5_47 rfl rfl ?_
  refine wp_getfield D_prog_7_m5_48 (hw _ (List.mem_of_getElem? (i := 13) rfl)) (fld_new (i := 0) (fi := 1) rfl rfl rfl) ?_
  refine wp_if_ne D_prog_7_m5_51 (pc'' := 58) ⟨by decide, by decide⟩ (fun h8 => ?_) (fun h8 => ?_)
  · skip
    refine wp_dload_n D_prog_7_m5_58 rfl ?_
    refine wp_aload_n D_prog_7_m5_59 rfl rfl ?_
    refine wp_getfield D_prog_7_m5_60 (hw _ (List.mem_of_getElem? (i := 13) rfl)) (fld_new (i := 0) (fi := 1) rfl rfl rfl) ?_
    refine wp_i2d (FP.i2d n) D_prog_7_m5_63 rfl ?_
    refine wp_ddiv (FP.ddiv (4607182418800017408 : UInt64) (FP.i2d n)) D_prog_7_m5_64 (Jvm.Free.Fl.ddiv_out (by unfold Jvm.Free.Fl.NoNaN64; decide +kernel) (Jvm.Free.Fl.i2d_fin _) (Jvm.Free.Fl.i2d_nz h8)) rfl ?_
    refine wp_dreturn D_prog_7_m5_65 rfl (by decide) (by decide) ?_
    exact ⟨by rw [if_neg h8], rfl⟩
  · skip
    refine wp_dconst0 0 D_prog_7_m5_54 (by decide +kernel) ?_
    refine wp_goto D_prog_7_m5_55 (pc'' := 65) ⟨by decide, by decide⟩ ?_
    refine wp_dreturn D_prog_7_m5_65 rfl (by decide) (by decide) ?_
    exact ⟨by rw [if_pos h8], rfl⟩
def Q_c_ap_101 (o x : Addr) (n : Int32) (F : OH) : Option Value → OH → Prop := fun v H' => v = some (.double (if n = 0 then 0 else FP.ddiv (4610184818551597738 : UInt64) (FP.i2d n))) ∧ H' = ((o, oI "com/example/keyword_to_concept/keywordtoconcept/evaluation/RankedTopic" sg_1 [(.ref x), (.int n)]) :: (x, oA .boolean [(1 : Int32), (0 : Int32), (1 : Int32)]) :: F)
set_option maxRecDepth 65536 in
set_option maxHeartbeats 40000000 in
theorem c_ap_101 (l : Launch) (Z : State) (a0 : Array Value) (hw : ∀ d ∈ tables_1, d.before a0 Z = true) (o x : Addr) (n : Int32) (F : OH)  :
    Met l Z (⟨"com/example/keyword_to_concept/keywordtoconcept/evaluation/RankedTopic", "averagePrecision", "()D"⟩ : MethodName) prog_7_method_5_code 5 (some .double) ({ frames := 0, cells := 0, slots := 0, locals := 0 } : Room) [(.ref o)] ((o, oI "com/example/keyword_to_concept/keywordtoconcept/evaluation/RankedTopic" sg_1 [(.ref x), (.int n)]) :: (x, oA .boolean [(1 : Int32), (0 : Int32), (1 : Int32)]) :: F) (Q_c_ap_101 o x n F) := by
  refine Met.of_wp (Ls := #[.val (.ref o), .unset, .unset, .unset, .unset]) pn_2 (fun m => by first | rfl | (simp [entryFrame, mkF, argsToLocals, Value.category]; done)) ?_
  show Wp none l Z "com/example/keyword_to_concept/keywordtoconcept/evaluation/RankedTopic" "averagePrecision" prog_7_method_5_code 5 (some .double) ({ frames := 0, cells := 0, slots := 0, locals := 0 } : Room) ((o, oI "com/example/keyword_to_concept/keywordtoconcept/evaluation/RankedTopic" sg_1 [(.ref x), (.int n)]) :: (x, oA .boolean [(1 : Int32), (0 : Int32), (1 : Int32)]) :: F) 0 0 0 #[.val (.ref o), .unset, .unset, .unset, .unset] [] (Q_c_ap_101 o x n F)
  refine wp_dconst0 0 D_prog_7_m5_0 (by decide +kernel) ?_
  refine wp_dstore_n #[.val (.ref o), .val (.double (0 : UInt64)), .second, .unset, .unset] D_prog_7_m5_1 rfl ?_
  refine wp_iconst 0 D_prog_7_m5_2 (by decide) ?_
  refine wp_istore_n #[.val (.ref o), .val (.double (0 : UInt64)), .second, .val (.int (0 : Int32)), .unset] D_prog_7_m5_3 rfl ?_
  refine wp_iconst 0 D_prog_7_m5_4 (by decide) ?_
  refine wp_istore #[.val (.ref o), .val (.double (0 : UInt64)), .second, .val (.int (0 : Int32)), .val (.int (0 : Int32))] D_prog_7_m5_5 rfl ?_
  refine wp_iload D_prog_7_m5_7 rfl ?_
  refine wp_aload_n D_prog_7_m5_9 rfl rfl ?_
  refine wp_getfield D_prog_7_m5_10 (hw _ (List.mem_of_getElem? (i := 11) rfl)) (fld_new (i := 0) (fi := 0) rfl rfl rfl) ?_
  refine wp_lengthI (i := 1) (3 : Int32) D_prog_7_m5_13 rfl rfl ?_
  refine wp_icmp_ge D_prog_7_m5_14 (pc'' := 47) ⟨by decide, by decide⟩ (fun h1 => by exact absurd h1 (by decide)) (fun h1 => ?_)
  refine wp_aload_n D_prog_7_m5_17 rfl rfl ?_
  refine wp_getfield D_prog_7_m5_18 (hw _ (List.mem_of_getElem? (i := 11) rfl)) (fld_new (i := 0) (fi := 0) rfl rfl rfl) ?_
  refine wp_iload D_prog_7_m5_21 rfl ?_
  refine wp_zaload (i := 1) (0) D_prog_7_m5_23 rfl (by decide) (by decide) rfl ?_
  refine wp_if_eq D_prog_7_m5_24 (pc'' := 41) ⟨by decide, by decide⟩ (fun h2 => by exact absurd h2 (by decide)) (fun h2 => ?_)
  refine wp_iinc 1 #[.val (.ref o), .val (.double (0 : UInt64)), .second, .val (.int (1 : Int32)), .val (.int (0 : Int32))] D_prog_7_m5_27 rfl rfl (by rw [show (0 : Int32) + (1 : Int32) = (1 : Int32) from by decide]; rfl) ?_
  refine wp_dload_n D_prog_7_m5_30 rfl ?_
  refine wp_iload_n D_prog_7_m5_31 rfl ?_
  refine wp_i2d (4607182418800017408 : UInt64) D_prog_7_m5_32 (by decide +kernel) ?_
  refine wp_iload D_prog_7_m5_33 rfl ?_
  refine wp_iconst 1 D_prog_7_m5_35 (by decide) ?_
  refine wp_iadd D_prog_7_m5_36 ?_
  rw [show ((0 : Int32) + (1 : Int32)) = (1 : Int32) from by decide]
  refine wp_i2d (4607182418800017408 : UInt64) D_prog_7_m5_37 (by decide +kernel) ?_
  refine wp_ddiv (4607182418800017408 : UInt64) D_prog_7_m5_38 (by unfold Jvm.Free.Fl.NoNaN64; decide +kernel) (by decide +kernel) ?_
  refine wp_dadd (4607182418800017408 : UInt64) D_prog_7_m5_39 (by unfold Jvm.Free.Fl.NoNaN64; decide +kernel) (by decide +kernel) ?_
  refine wp_dstore_n #[.val (.ref o), .val (.double (4607182418800017408 : UInt64)), .second, .val (.int (1 : Int32)), .val (.int (0 : Int32))] D_prog_7_m5_40 rfl ?_
  refine wp_iinc 1 #[.val (.ref o), .val (.double (4607182418800017408 : UInt64)), .second, .val (.int (1 : Int32)), .val (.int (1 : Int32))] D_prog_7_m5_41 rfl rfl (by rw [show (0 : Int32) + (1 : Int32) = (1 : Int32) from by decide]; rfl) ?_
  refine wp_goto D_prog_7_m5_44 (pc'' := 7) ⟨by decide, by decide⟩ ?_
  refine wp_iload D_prog_7_m5_7 rfl ?_
  refine wp_aload_n D_prog_7_m5_9 rfl rfl ?_
  refine wp_getfield D_prog_7_m5_10 (hw _ (List.mem_of_getElem? (i := 11) rfl)) (fld_new (i := 0) (fi := 0) rfl rfl rfl) ?_
  refine wp_lengthI (i := 1) (3 : Int32) D_prog_7_m5_13 rfl rfl ?_
  refine wp_icmp_ge D_prog_7_m5_14 (pc'' := 47) ⟨by decide, by decide⟩ (fun h3 => by exact absurd h3 (by decide)) (fun h3 => ?_)
  refine wp_aload_n D_prog_7_m5_17 rfl rfl ?_
  refine wp_getfield D_prog_7_m5_18 (hw _ (List.mem_of_getElem? (i := 11) rfl)) (fld_new (i := 0) (fi := 0) rfl rfl rfl) ?_
  refine wp_iload D_prog_7_m5_21 rfl ?_
  refine wp_zaload (i := 1) (1) D_prog_7_m5_23 rfl (by decide) (by decide) rfl ?_
  refine wp_if_eq D_prog_7_m5_24 (pc'' := 41) ⟨by decide, by decide⟩ (fun h4 => ?_) (fun h4 => by exact absurd h4 (by decide))
  refine wp_iinc 1 #[.val (.ref o), .val (.double (4607182418800017408 : UInt64)), .second, .val (.int (1 : Int32)), .val (.int (2 : Int32))] D_prog_7_m5_41 rfl rfl (by rw [show (1 : Int32) + (1 : Int32) = (2 : Int32) from by decide]; rfl) ?_
  refine wp_goto D_prog_7_m5_44 (pc'' := 7) ⟨by decide, by decide⟩ ?_
  refine wp_iload D_prog_7_m5_7 rfl ?_
  refine wp_aload_n D_prog_7_m5_9 rfl rfl ?_
  refine wp_getfield D_prog_7_m5_10 (hw _ (List.mem_of_getElem? (i := 11) rfl)) (fld_new (i := 0) (fi := 0) rfl rfl rfl) ?_
  refine wp_lengthI (i := 1) (3 : Int32) D_prog_7_m5_13 rfl rfl ?_
  refine wp_icmp_ge D_prog_7_m5_14 (pc'' := 47) ⟨by decide, by decide⟩ (fun h5 => by exact absurd h5 (by decide)) (fun h5 => ?_)
  refine wp_aload_n D_prog_7_m5_17 rfl rfl ?_
  refine wp_getfield D_prog_7_m5_18 (hw _ (List.mem_of_getElem? (i := 11) rfl)) (fld_new (i := 0) (fi := 0) rfl rfl rfl) ?_
  refine wp_iload D_prog_7_m5_21 rfl ?_
  refine wp_zaload (i := 1) (2) D_prog_7_m5_23 rfl (by decide) (by decide) rfl ?_
  refine wp_if_eq D_prog_7_m5_24 (pc'' := 41) ⟨by decide, by decide⟩ (fun h6 => by exact absurd h6 (by decide)) (fun h6 => ?_)
  refine wp_iinc 1 #[.val (.ref o), .val (.double (4607182418800017408 : UInt64)), .second, .val (.int (2 : Int32)), .val (.int (2 : Int32))] D_prog_7_m5_27 rfl rfl (by rw [show (1 : Int32) + (1 : Int32) = (2 : Int32) from by decide]; rfl) ?_
  refine wp_dload_n D_prog_7_m5_30 rfl ?_
  refine wp_iload_n D_prog_7_m5_31 rfl ?_
  refine wp_i2d (4611686018427387904 : UInt64) D_prog_7_m5_32 (by decide +kernel) ?_
  refine wp_iload D_prog_7_m5_33 rfl ?_
  refine wp_iconst 1 D_prog_7_m5_35 (by decide) ?_
  refine wp_iadd D_prog_7_m5_36 ?_
  rw [show ((2 : Int32) + (1 : Int32)) = (3 : Int32) from by decide]
  refine wp_i2d (4613937818241073152 : UInt64) D_prog_7_m5_37 (by decide +kernel) ?_
  refine wp_ddiv (4604180019048437077 : UInt64) D_prog_7_m5_38 (by unfold Jvm.Free.Fl.NoNaN64; decide +kernel) (by decide +kernel) ?_
  refine wp_dadd (4610184818551597738 : UInt64) D_prog_7_m5_39 (by unfold Jvm.Free.Fl.NoNaN64; decide +kernel) (by decide +kernel) ?_
  refine wp_dstore_n #[.val (.ref o), .val (.double (4610184818551597738 : UInt64)), .second, .val (.int (2 : Int32)), .val (.int (2 : Int32))] D_prog_7_m5_40 rfl ?_
  refine wp_iinc 1 #[.val (.ref o), .val (.double (4610184818551597738 : UInt64)), .second, .val (.int (2 : Int32)), .val (.int (3 : Int32))] D_prog_7_m5_41 rfl rfl (by rw [show (2 : Int32) + (1 : Int32) = (3 : Int32) from by decide]; rfl) ?_
  refine wp_goto D_prog_7_m5_44 (pc'' := 7) ⟨by decide, by decide⟩ ?_
  refine wp_iload D_prog_7_m5_7 rfl ?_
  refine wp_aload_n D_prog_7_m5_9 rfl rfl ?_
  refine wp_getfield D_prog_7_m5_10 (hw _ (List.mem_of_getElem? (i := 11) rfl)) (fld_new (i := 0) (fi := 0) rfl rfl rfl) ?_
  refine wp_lengthI (i := 1) (3 : Int32) D_prog_7_m5_13 rfl rfl ?_
  refine wp_icmp_ge D_prog_7_m5_14 (pc'' := 47) ⟨by decide, by decide⟩ (fun h7 => ?_) (fun h7 => by exact absurd h7 (by decide))
  refine wp_aload_n D_prog_7_m5_47 rfl rfl ?_
  refine wp_getfield D_prog_7_m5_48 (hw _ (List.mem_of_getElem? (i := 13) rfl)) (fld_new (i := 0) (fi := 1) rfl rfl rfl) ?_
  refine wp_if_ne D_prog_7_m5_51 (pc'' := 58) ⟨by decide, by decide⟩ (fun h8 => ?_) (fun h8 => ?_)
  · skip
    refine wp_dload_n D_prog_7_m5_58 rfl ?_
    refine wp_aload_n D_prog_7_m5_59 rfl rfl ?_
    refine wp_getfield D_prog_7_m5_60 (hw _ (List.mem_of_getElem? (i := 13) rfl)) (fld_new (i := 0) (fi := 1) rfl rfl rfl) ?_
    refine wp_i2d (FP.i2d n) D_prog_7_m5_63 rfl ?_
    refine wp_ddiv (FP.ddiv (4610184818551597738 : UInt64) (FP.i2d n)) D_prog_7_m5_64 (Jvm.Free.Fl.ddiv_out (by unfold Jvm.Free.Fl.NoNaN64; decide +kernel) (Jvm.Free.Fl.i2d_fin _) (Jvm.Free.Fl.i2d_nz h8)) rfl ?_
    refine wp_dreturn D_prog_7_m5_65 rfl (by decide) (by decide) ?_
    exact ⟨by rw [if_neg h8], rfl⟩
  · skip
    refine wp_dconst0 0 D_prog_7_m5_54 (by decide +kernel) ?_
    refine wp_goto D_prog_7_m5_55 (pc'' := 65) ⟨by decide, by decide⟩ ?_
    refine wp_dreturn D_prog_7_m5_65 rfl (by decide) (by decide) ?_
    exact ⟨by rw [if_pos h8], rfl⟩
def Q_c_ap_110 (o x : Addr) (n : Int32) (F : OH) : Option Value → OH → Prop := fun v H' => v = some (.double (if n = 0 then 0 else FP.ddiv (4611686018427387904 : UInt64) (FP.i2d n))) ∧ H' = ((o, oI "com/example/keyword_to_concept/keywordtoconcept/evaluation/RankedTopic" sg_1 [(.ref x), (.int n)]) :: (x, oA .boolean [(1 : Int32), (1 : Int32), (0 : Int32)]) :: F)
set_option maxRecDepth 65536 in
set_option maxHeartbeats 40000000 in
theorem c_ap_110 (l : Launch) (Z : State) (a0 : Array Value) (hw : ∀ d ∈ tables_1, d.before a0 Z = true) (o x : Addr) (n : Int32) (F : OH)  :
    Met l Z (⟨"com/example/keyword_to_concept/keywordtoconcept/evaluation/RankedTopic", "averagePrecision", "()D"⟩ : MethodName) prog_7_method_5_code 5 (some .double) ({ frames := 0, cells := 0, slots := 0, locals := 0 } : Room) [(.ref o)] ((o, oI "com/example/keyword_to_concept/keywordtoconcept/evaluation/RankedTopic" sg_1 [(.ref x), (.int n)]) :: (x, oA .boolean [(1 : Int32), (1 : Int32), (0 : Int32)]) :: F) (Q_c_ap_110 o x n F) := by
  refine Met.of_wp (Ls := #[.val (.ref o), .unset, .unset, .unset, .unset]) pn_2 (fun m => by first | rfl | (simp [entryFrame, mkF, argsToLocals, Value.category]; done)) ?_
  show Wp none l Z "com/example/keyword_to_concept/keywordtoconcept/evaluation/RankedTopic" "averagePrecision" prog_7_method_5_code 5 (some .double) ({ frames := 0, cells := 0, slots := 0, locals := 0 } : Room) ((o, oI "com/example/keyword_to_concept/keywordtoconcept/evaluation/RankedTopic" sg_1 [(.ref x), (.int n)]) :: (x, oA .boolean [(1 : Int32), (1 : Int32), (0 : Int32)]) :: F) 0 0 0 #[.val (.ref o), .unset, .unset, .unset, .unset] [] (Q_c_ap_110 o x n F)
  refine wp_dconst0 0 D_prog_7_m5_0 (by decide +kernel) ?_
  refine wp_dstore_n #[.val (.ref o), .val (.double (0 : UInt64)), .second, .unset, .unset] D_prog_7_m5_1 rfl ?_
  refine wp_iconst 0 D_prog_7_m5_2 (by decide) ?_
  refine wp_istore_n #[.val (.ref o), .val (.double (0 : UInt64)), .second, .val (.int (0 : Int32)), .unset] D_prog_7_m5_3 rfl ?_
  refine wp_iconst 0 D_prog_7_m5_4 (by decide) ?_
  refine wp_istore #[.val (.ref o), .val (.double (0 : UInt64)), .second, .val (.int (0 : Int32)), .val (.int (0 : Int32))] D_prog_7_m5_5 rfl ?_
  refine wp_iload D_prog_7_m5_7 rfl ?_
  refine wp_aload_n D_prog_7_m5_9 rfl rfl ?_
  refine wp_getfield D_prog_7_m5_10 (hw _ (List.mem_of_getElem? (i := 11) rfl)) (fld_new (i := 0) (fi := 0) rfl rfl rfl) ?_
  refine wp_lengthI (i := 1) (3 : Int32) D_prog_7_m5_13 rfl rfl ?_
  refine wp_icmp_ge D_prog_7_m5_14 (pc'' := 47) ⟨by decide, by decide⟩ (fun h1 => by exact absurd h1 (by decide)) (fun h1 => ?_)
  refine wp_aload_n D_prog_7_m5_17 rfl rfl ?_
  refine wp_getfield D_prog_7_m5_18 (hw _ (List.mem_of_getElem? (i := 11) rfl)) (fld_new (i := 0) (fi := 0) rfl rfl rfl) ?_
  refine wp_iload D_prog_7_m5_21 rfl ?_
  refine wp_zaload (i := 1) (0) D_prog_7_m5_23 rfl (by decide) (by decide) rfl ?_
  refine wp_if_eq D_prog_7_m5_24 (pc'' := 41) ⟨by decide, by decide⟩ (fun h2 => by exact absurd h2 (by decide)) (fun h2 => ?_)
  refine wp_iinc 1 #[.val (.ref o), .val (.double (0 : UInt64)), .second, .val (.int (1 : Int32)), .val (.int (0 : Int32))] D_prog_7_m5_27 rfl rfl (by rw [show (0 : Int32) + (1 : Int32) = (1 : Int32) from by decide]; rfl) ?_
  refine wp_dload_n D_prog_7_m5_30 rfl ?_
  refine wp_iload_n D_prog_7_m5_31 rfl ?_
  refine wp_i2d (4607182418800017408 : UInt64) D_prog_7_m5_32 (by decide +kernel) ?_
  refine wp_iload D_prog_7_m5_33 rfl ?_
  refine wp_iconst 1 D_prog_7_m5_35 (by decide) ?_
  refine wp_iadd D_prog_7_m5_36 ?_
  rw [show ((0 : Int32) + (1 : Int32)) = (1 : Int32) from by decide]
  refine wp_i2d (4607182418800017408 : UInt64) D_prog_7_m5_37 (by decide +kernel) ?_
  refine wp_ddiv (4607182418800017408 : UInt64) D_prog_7_m5_38 (by unfold Jvm.Free.Fl.NoNaN64; decide +kernel) (by decide +kernel) ?_
  refine wp_dadd (4607182418800017408 : UInt64) D_prog_7_m5_39 (by unfold Jvm.Free.Fl.NoNaN64; decide +kernel) (by decide +kernel) ?_
  refine wp_dstore_n #[.val (.ref o), .val (.double (4607182418800017408 : UInt64)), .second, .val (.int (1 : Int32)), .val (.int (0 : Int32))] D_prog_7_m5_40 rfl ?_
  refine wp_iinc 1 #[.val (.ref o), .val (.double (4607182418800017408 : UInt64)), .second, .val (.int (1 : Int32)), .val (.int (1 : Int32))] D_prog_7_m5_41 rfl rfl (by rw [show (0 : Int32) + (1 : Int32) = (1 : Int32) from by decide]; rfl) ?_
  refine wp_goto D_prog_7_m5_44 (pc'' := 7) ⟨by decide, by decide⟩ ?_
  refine wp_iload D_prog_7_m5_7 rfl ?_
  refine wp_aload_n D_prog_7_m5_9 rfl rfl ?_
  refine wp_getfield D_prog_7_m5_10 (hw _ (List.mem_of_getElem? (i := 11) rfl)) (fld_new (i := 0) (fi := 0) rfl rfl rfl) ?_
  refine wp_lengthI (i := 1) (3 : Int32) D_prog_7_m5_13 rfl rfl ?_
  refine wp_icmp_ge D_prog_7_m5_14 (pc'' := 47) ⟨by decide, by decide⟩ (fun h3 => by exact absurd h3 (by decide)) (fun h3 => ?_)
  refine wp_aload_n D_prog_7_m5_17 rfl rfl ?_
  refine wp_getfield D_prog_7_m5_18 (hw _ (List.mem_of_getElem? (i := 11) rfl)) (fld_new (i := 0) (fi := 0) rfl rfl rfl) ?_
  refine wp_iload D_prog_7_m5_21 rfl ?_
  refine wp_zaload (i := 1) (1) D_prog_7_m5_23 rfl (by decide) (by decide) rfl ?_
  refine wp_if_eq D_prog_7_m5_24 (pc'' := 41) ⟨by decide, by decide⟩ (fun h4 => by exact absurd h4 (by decide)) (fun h4 => ?_)
  refine wp_iinc 1 #[.val (.ref o), .val (.double (4607182418800017408 : UInt64)), .second, .val (.int (2 : Int32)), .val (.int (1 : Int32))] D_prog_7_m5_27 rfl rfl (by rw [show (1 : Int32) + (1 : Int32) = (2 : Int32) from by decide]; rfl) ?_
  refine wp_dload_n D_prog_7_m5_30 rfl ?_
  refine wp_iload_n D_prog_7_m5_31 rfl ?_
  refine wp_i2d (4611686018427387904 : UInt64) D_prog_7_m5_32 (by decide +kernel) ?_
  refine wp_iload D_prog_7_m5_33 rfl ?_
  refine wp_iconst 1 D_prog_7_m5_35 (by decide) ?_
  refine wp_iadd D_prog_7_m5_36 ?_
  rw [show ((1 : Int32) + (1 : Int32)) = (2 : Int32) from by decide]
  refine wp_i2d (4611686018427387904 : UInt64) D_prog_7_m5_37 (by decide +kernel) ?_
  refine wp_ddiv (4607182418800017408 : UInt64) D_prog_7_m5_38 (by unfold Jvm.Free.Fl.NoNaN64; decide +kernel) (by decide +kernel) ?_
  refine wp_dadd (4611686018427387904 : UInt64) D_prog_7_m5_39 (by unfold Jvm.Free.Fl.NoNaN64; decide +kernel) (by decide +kernel) ?_
  refine wp_dstore_n #[.val (.ref o), .val (.double (4611686018427387904 : UInt64)), .second, .val (.int (2 : Int32)), .val (.int (1 : Int32))] D_prog_7_m5_40 rfl ?_
  refine wp_iinc 1 #[.val (.ref o), .val (.double (4611686018427387904 : UInt64)), .second, .val (.int (2 : Int32)), .val (.int (2 : Int32))] D_prog_7_m5_41 rfl rfl (by rw [show (1 : Int32) + (1 : Int32) = (2 : Int32) from by decide]; rfl) ?_
  refine wp_goto D_prog_7_m5_44 (pc'' := 7) ⟨by decide, by decide⟩ ?_
  refine wp_iload D_prog_7_m5_7 rfl ?_
  refine wp_aload_n D_prog_7_m5_9 rfl rfl ?_
  refine wp_getfield D_prog_7_m5_10 (hw _ (List.mem_of_getElem? (i := 11) rfl)) (fld_new (i := 0) (fi := 0) rfl rfl rfl) ?_
  refine wp_lengthI (i := 1) (3 : Int32) D_prog_7_m5_13 rfl rfl ?_
  refine wp_icmp_ge D_prog_7_m5_14 (pc'' := 47) ⟨by decide, by decide⟩ (fun h5 => by exact absurd h5 (by decide)) (fun h5 => ?_)
  refine wp_aload_n D_prog_7_m5_17 rfl rfl ?_
  refine wp_getfield D_prog_7_m5_18 (hw _ (List.mem_of_getElem? (i := 11) rfl)) (fld_new (i := 0) (fi := 0) rfl rfl rfl) ?_
  refine wp_iload D_prog_7_m5_21 rfl ?_
  refine wp_zaload (i := 1) (2) D_prog_7_m5_23 rfl (by decide) (by decide) rfl ?_
  refine wp_if_eq D_prog_7_m5_24 (pc'' := 41) ⟨by decide, by decide⟩ (fun h6 => ?_) (fun h6 => by exact absurd h6 (by decide))
  refine wp_iinc 1 #[.val (.ref o), .val (.double (4611686018427387904 : UInt64)), .second, .val (.int (2 : Int32)), .val (.int (3 : Int32))] D_prog_7_m5_41 rfl rfl (by rw [show (2 : Int32) + (1 : Int32) = (3 : Int32) from by decide]; rfl) ?_
  refine wp_goto D_prog_7_m5_44 (pc'' := 7) ⟨by decide, by decide⟩ ?_
  refine wp_iload D_prog_7_m5_7 rfl ?_
  refine wp_aload_n D_prog_7_m5_9 rfl rfl ?_
  refine wp_getfield D_prog_7_m5_10 (hw _ (List.mem_of_getElem? (i := 11) rfl)) (fld_new (i := 0) (fi := 0) rfl rfl rfl) ?_
  refine wp_lengthI (i := 1) (3 : Int32) D_prog_7_m5_13 rfl rfl ?_
  refine wp_icmp_ge D_prog_7_m5_14 (pc'' := 47) ⟨by decide, by decide⟩ (fun h7 => ?_) (fun h7 => by exact absurd h7 (by decide))
  refine wp_aload_n D_prog_7_m5_47 rfl rfl ?_
  refine wp_getfield D_prog_7_m5_48 (hw _ (List.mem_of_getElem? (i := 13) rfl)) (fld_new (i := 0) (fi := 1) rfl rfl rfl) ?_
  refine wp_if_ne D_prog_7_m5_51 (pc'' := 58) ⟨by decide, by decide⟩ (fun h8 => ?_) (fun h8 => ?_)
  · skip
    refine wp_dload_n D_prog_7_m5_58 rfl ?_
    refine wp_aload_n D_prog_7_m5_59 rfl rfl ?_
    refine wp_getfield D_prog_7_m5_60 (hw _ (List.mem_of_getElem? (i := 13) rfl)) (fld_new (i := 0) (fi := 1) rfl rfl rfl) ?_
    refine wp_i2d (FP.i2d n) D_prog_7_m5_63 rfl ?_
    refine wp_ddiv (FP.ddiv (4611686018427387904 : UInt64) (FP.i2d n)) D_prog_7_m5_64 (Jvm.Free.Fl.ddiv_out (by unfold Jvm.Free.Fl.NoNaN64; decide +kernel) (Jvm.Free.Fl.i2d_fin _) (Jvm.Free.Fl.i2d_nz h8)) rfl ?_
    refine wp_dreturn D_prog_7_m5_65 rfl (by decide) (by decide) ?_
    exact ⟨by rw [if_neg h8], rfl⟩
  · skip
    refine wp_dconst0 0 D_prog_7_m5_54 (by decide +kernel) ?_
    refine wp_goto D_prog_7_m5_55 (pc'' := 65) ⟨by decide, by decide⟩ ?_
    refine wp_dreturn D_prog_7_m5_65 rfl (by decide) (by decide) ?_
    exact ⟨by rw [if_pos h8], rfl⟩
def Q_c_ap_111 (o x : Addr) (n : Int32) (F : OH) : Option Value → OH → Prop := fun v H' => v = some (.double (if n = 0 then 0 else FP.ddiv (4613937818241073152 : UInt64) (FP.i2d n))) ∧ H' = ((o, oI "com/example/keyword_to_concept/keywordtoconcept/evaluation/RankedTopic" sg_1 [(.ref x), (.int n)]) :: (x, oA .boolean [(1 : Int32), (1 : Int32), (1 : Int32)]) :: F)
set_option maxRecDepth 65536 in
set_option maxHeartbeats 40000000 in
theorem c_ap_111 (l : Launch) (Z : State) (a0 : Array Value) (hw : ∀ d ∈ tables_1, d.before a0 Z = true) (o x : Addr) (n : Int32) (F : OH)  :
    Met l Z (⟨"com/example/keyword_to_concept/keywordtoconcept/evaluation/RankedTopic", "averagePrecision", "()D"⟩ : MethodName) prog_7_method_5_code 5 (some .double) ({ frames := 0, cells := 0, slots := 0, locals := 0 } : Room) [(.ref o)] ((o, oI "com/example/keyword_to_concept/keywordtoconcept/evaluation/RankedTopic" sg_1 [(.ref x), (.int n)]) :: (x, oA .boolean [(1 : Int32), (1 : Int32), (1 : Int32)]) :: F) (Q_c_ap_111 o x n F) := by
  refine Met.of_wp (Ls := #[.val (.ref o), .unset, .unset, .unset, .unset]) pn_2 (fun m => by first | rfl | (simp [entryFrame, mkF, argsToLocals, Value.category]; done)) ?_
  show Wp none l Z "com/example/keyword_to_concept/keywordtoconcept/evaluation/RankedTopic" "averagePrecision" prog_7_method_5_code 5 (some .double) ({ frames := 0, cells := 0, slots := 0, locals := 0 } : Room) ((o, oI "com/example/keyword_to_concept/keywordtoconcept/evaluation/RankedTopic" sg_1 [(.ref x), (.int n)]) :: (x, oA .boolean [(1 : Int32), (1 : Int32), (1 : Int32)]) :: F) 0 0 0 #[.val (.ref o), .unset, .unset, .unset, .unset] [] (Q_c_ap_111 o x n F)
  refine wp_dconst0 0 D_prog_7_m5_0 (by decide +kernel) ?_
  refine wp_dstore_n #[.val (.ref o), .val (.double (0 : UInt64)), .second, .unset, .unset] D_prog_7_m5_1 rfl ?_
  refine wp_iconst 0 D_prog_7_m5_2 (by decide) ?_
  refine wp_istore_n #[.val (.ref o), .val (.double (0 : UInt64)), .second, .val (.int (0 : Int32)), .unset] D_prog_7_m5_3 rfl ?_
  refine wp_iconst 0 D_prog_7_m5_4 (by decide) ?_
  refine wp_istore #[.val (.ref o), .val (.double (0 : UInt64)), .second, .val (.int (0 : Int32)), .val (.int (0 : Int32))] D_prog_7_m5_5 rfl ?_
  refine wp_iload D_prog_7_m5_7 rfl ?_
  refine wp_aload_n D_prog_7_m5_9 rfl rfl ?_
  refine wp_getfield D_prog_7_m5_10 (hw _ (List.mem_of_getElem? (i := 11) rfl)) (fld_new (i := 0) (fi := 0) rfl rfl rfl) ?_
  refine wp_lengthI (i := 1) (3 : Int32) D_prog_7_m5_13 rfl rfl ?_
  refine wp_icmp_ge D_prog_7_m5_14 (pc'' := 47) ⟨by decide, by decide⟩ (fun h1 => by exact absurd h1 (by decide)) (fun h1 => ?_)
  refine wp_aload_n D_prog_7_m5_17 rfl rfl ?_
  refine wp_getfield D_prog_7_m5_18 (hw _ (List.mem_of_getElem? (i := 11) rfl)) (fld_new (i := 0) (fi := 0) rfl rfl rfl) ?_
  refine wp_iload D_prog_7_m5_21 rfl ?_
  refine wp_zaload (i := 1) (0) D_prog_7_m5_23 rfl (by decide) (by decide) rfl ?_
  refine wp_if_eq D_prog_7_m5_24 (pc'' := 41) ⟨by decide, by decide⟩ (fun h2 => by exact absurd h2 (by decide)) (fun h2 => ?_)
  refine wp_iinc 1 #[.val (.ref o), .val (.double (0 : UInt64)), .second, .val (.int (1 : Int32)), .val (.int (0 : Int32))] D_prog_7_m5_27 rfl rfl (by rw [show (0 : Int32) + (1 : Int32) = (1 : Int32) from by decide]; rfl) ?_
  refine wp_dload_n D_prog_7_m5_30 rfl ?_
  refine wp_iload_n D_prog_7_m5_31 rfl ?_
  refine wp_i2d (4607182418800017408 : UInt64) D_prog_7_m5_32 (by decide +kernel) ?_
  refine wp_iload D_prog_7_m5_33 rfl ?_
  refine wp_iconst 1 D_prog_7_m5_35 (by decide) ?_
  refine wp_iadd D_prog_7_m5_36 ?_
  rw [show ((0 : Int32) + (1 : Int32)) = (1 : Int32) from by decide]
  refine wp_i2d (4607182418800017408 : UInt64) D_prog_7_m5_37 (by decide +kernel) ?_
  refine wp_ddiv (4607182418800017408 : UInt64) D_prog_7_m5_38 (by unfold Jvm.Free.Fl.NoNaN64; decide +kernel) (by decide +kernel) ?_
  refine wp_dadd (4607182418800017408 : UInt64) D_prog_7_m5_39 (by unfold Jvm.Free.Fl.NoNaN64; decide +kernel) (by decide +kernel) ?_
  refine wp_dstore_n #[.val (.ref o), .val (.double (4607182418800017408 : UInt64)), .second, .val (.int (1 : Int32)), .val (.int (0 : Int32))] D_prog_7_m5_40 rfl ?_
  refine wp_iinc 1 #[.val (.ref o), .val (.double (4607182418800017408 : UInt64)), .second, .val (.int (1 : Int32)), .val (.int (1 : Int32))] D_prog_7_m5_41 rfl rfl (by rw [show (0 : Int32) + (1 : Int32) = (1 : Int32) from by decide]; rfl) ?_
  refine wp_goto D_prog_7_m5_44 (pc'' := 7) ⟨by decide, by decide⟩ ?_
  refine wp_iload D_prog_7_m5_7 rfl ?_
  refine wp_aload_n D_prog_7_m5_9 rfl rfl ?_
  refine wp_getfield D_prog_7_m5_10 (hw _ (List.mem_of_getElem? (i := 11) rfl)) (fld_new (i := 0) (fi := 0) rfl rfl rfl) ?_
  refine wp_lengthI (i := 1) (3 : Int32) D_prog_7_m5_13 rfl rfl ?_
  refine wp_icmp_ge D_prog_7_m5_14 (pc'' := 47) ⟨by decide, by decide⟩ (fun h3 => by exact absurd h3 (by decide)) (fun h3 => ?_)
  refine wp_aload_n D_prog_7_m5_17 rfl rfl ?_
  refine wp_getfield D_prog_7_m5_18 (hw _ (List.mem_of_getElem? (i := 11) rfl)) (fld_new (i := 0) (fi := 0) rfl rfl rfl) ?_
  refine wp_iload D_prog_7_m5_21 rfl ?_
  refine wp_zaload (i := 1) (1) D_prog_7_m5_23 rfl (by decide) (by decide) rfl ?_
  refine wp_if_eq D_prog_7_m5_24 (pc'' := 41) ⟨by decide, by decide⟩ (fun h4 => by exact absurd h4 (by decide)) (fun h4 => ?_)
  refine wp_iinc 1 #[.val (.ref o), .val (.double (4607182418800017408 : UInt64)), .second, .val (.int (2 : Int32)), .val (.int (1 : Int32))] D_prog_7_m5_27 rfl rfl (by rw [show (1 : Int32) + (1 : Int32) = (2 : Int32) from by decide]; rfl) ?_
  refine wp_dload_n D_prog_7_m5_30 rfl ?_
  refine wp_iload_n D_prog_7_m5_31 rfl ?_
  refine wp_i2d (4611686018427387904 : UInt64) D_prog_7_m5_32 (by decide +kernel) ?_
  refine wp_iload D_prog_7_m5_33 rfl ?_
  refine wp_iconst 1 D_prog_7_m5_35 (by decide) ?_
  refine wp_iadd D_prog_7_m5_36 ?_
  rw [show ((1 : Int32) + (1 : Int32)) = (2 : Int32) from by decide]
  refine wp_i2d (4611686018427387904 : UInt64) D_prog_7_m5_37 (by decide +kernel) ?_
  refine wp_ddiv (4607182418800017408 : UInt64) D_prog_7_m5_38 (by unfold Jvm.Free.Fl.NoNaN64; decide +kernel) (by decide +kernel) ?_
  refine wp_dadd (4611686018427387904 : UInt64) D_prog_7_m5_39 (by unfold Jvm.Free.Fl.NoNaN64; decide +kernel) (by decide +kernel) ?_
  refine wp_dstore_n #[.val (.ref o), .val (.double (4611686018427387904 : UInt64)), .second, .val (.int (2 : Int32)), .val (.int (1 : Int32))] D_prog_7_m5_40 rfl ?_
  refine wp_iinc 1 #[.val (.ref o), .val (.double (4611686018427387904 : UInt64)), .second, .val (.int (2 : Int32)), .val (.int (2 : Int32))] D_prog_7_m5_41 rfl rfl (by rw [show (1 : Int32) + (1 : Int32) = (2 : Int32) from by decide]; rfl) ?_
  refine wp_goto D_prog_7_m5_44 (pc'' := 7) ⟨by decide, by decide⟩ ?_
  refine wp_iload D_prog_7_m5_7 rfl ?_
  refine wp_aload_n D_prog_7_m5_9 rfl rfl ?_
  refine wp_getfield D_prog_7_m5_10 (hw _ (List.mem_of_getElem? (i := 11) rfl)) (fld_new (i := 0) (fi := 0) rfl rfl rfl) ?_
  refine wp_lengthI (i := 1) (3 : Int32) D_prog_7_m5_13 rfl rfl ?_
  refine wp_icmp_ge D_prog_7_m5_14 (pc'' := 47) ⟨by decide, by decide⟩ (fun h5 => by exact absurd h5 (by decide)) (fun h5 => ?_)
  refine wp_aload_n D_prog_7_m5_17 rfl rfl ?_
  refine wp_getfield D_prog_7_m5_18 (hw _ (List.mem_of_getElem? (i := 11) rfl)) (fld_new (i := 0) (fi := 0) rfl rfl rfl) ?_
  refine wp_iload D_prog_7_m5_21 rfl ?_
  refine wp_zaload (i := 1) (2) D_prog_7_m5_23 rfl (by decide) (by decide) rfl ?_
  refine wp_if_eq D_prog_7_m5_24 (pc'' := 41) ⟨by decide, by decide⟩ (fun h6 => by exact absurd h6 (by decide)) (fun h6 => ?_)
  refine wp_iinc 1 #[.val (.ref o), .val (.double (4611686018427387904 : UInt64)), .second, .val (.int (3 : Int32)), .val (.int (2 : Int32))] D_prog_7_m5_27 rfl rfl (by rw [show (2 : Int32) + (1 : Int32) = (3 : Int32) from by decide]; rfl) ?_
  refine wp_dload_n D_prog_7_m5_30 rfl ?_
  refine wp_iload_n D_prog_7_m5_31 rfl ?_
  refine wp_i2d (4613937818241073152 : UInt64) D_prog_7_m5_32 (by decide +kernel) ?_
  refine wp_iload D_prog_7_m5_33 rfl ?_
  refine wp_iconst 1 D_prog_7_m5_35 (by decide) ?_
  refine wp_iadd D_prog_7_m5_36 ?_
  rw [show ((2 : Int32) + (1 : Int32)) = (3 : Int32) from by decide]
  refine wp_i2d (4613937818241073152 : UInt64) D_prog_7_m5_37 (by decide +kernel) ?_
  refine wp_ddiv (4607182418800017408 : UInt64) D_prog_7_m5_38 (by unfold Jvm.Free.Fl.NoNaN64; decide +kernel) (by decide +kernel) ?_
  refine wp_dadd (4613937818241073152 : UInt64) D_prog_7_m5_39 (by unfold Jvm.Free.Fl.NoNaN64; decide +kernel) (by decide +kernel) ?_
  refine wp_dstore_n #[.val (.ref o), .val (.double (4613937818241073152 : UInt64)), .second, .val (.int (3 : Int32)), .val (.int (2 : Int32))] D_prog_7_m5_40 rfl ?_
  refine wp_iinc 1 #[.val (.ref o), .val (.double (4613937818241073152 : UInt64)), .second, .val (.int (3 : Int32)), .val (.int (3 : Int32))] D_prog_7_m5_41 rfl rfl (by rw [show (2 : Int32) + (1 : Int32) = (3 : Int32) from by decide]; rfl) ?_
  refine wp_goto D_prog_7_m5_44 (pc'' := 7) ⟨by decide, by decide⟩ ?_
  refine wp_iload D_prog_7_m5_7 rfl ?_
  refine wp_aload_n D_prog_7_m5_9 rfl rfl ?_
  refine wp_getfield D_prog_7_m5_10 (hw _ (List.mem_of_getElem? (i := 11) rfl)) (fld_new (i := 0) (fi := 0) rfl rfl rfl) ?_
  refine wp_lengthI (i := 1) (3 : Int32) D_prog_7_m5_13 rfl rfl ?_
  refine wp_icmp_ge D_prog_7_m5_14 (pc'' := 47) ⟨by decide, by decide⟩ (fun h7 => ?_) (fun h7 => by exact absurd h7 (by decide))
  refine wp_aload_n D_prog_7_m5_47 rfl rfl ?_
  refine wp_getfield D_prog_7_m5_48 (hw _ (List.mem_of_getElem? (i := 13) rfl)) (fld_new (i := 0) (fi := 1) rfl rfl rfl) ?_
  refine wp_if_ne D_prog_7_m5_51 (pc'' := 58) ⟨by decide, by decide⟩ (fun h8 => ?_) (fun h8 => ?_)
  · skip
    refine wp_dload_n D_prog_7_m5_58 rfl ?_
    refine wp_aload_n D_prog_7_m5_59 rfl rfl ?_
    refine wp_getfield D_prog_7_m5_60 (hw _ (List.mem_of_getElem? (i := 13) rfl)) (fld_new (i := 0) (fi := 1) rfl rfl rfl) ?_
    refine wp_i2d (FP.i2d n) D_prog_7_m5_63 rfl ?_
    refine wp_ddiv (FP.ddiv (4613937818241073152 : UInt64) (FP.i2d n)) D_prog_7_m5_64 (Jvm.Free.Fl.ddiv_out (by unfold Jvm.Free.Fl.NoNaN64; decide +kernel) (Jvm.Free.Fl.i2d_fin _) (Jvm.Free.Fl.i2d_nz h8)) rfl ?_
    refine wp_dreturn D_prog_7_m5_65 rfl (by decide) (by decide) ?_
    exact ⟨by rw [if_neg h8], rfl⟩
  · skip
    refine wp_dconst0 0 D_prog_7_m5_54 (by decide +kernel) ?_
    refine wp_goto D_prog_7_m5_55 (pc'' := 65) ⟨by decide, by decide⟩ ?_
    refine wp_dreturn D_prog_7_m5_65 rfl (by decide) (by decide) ?_
    exact ⟨by rw [if_pos h8], rfl⟩
theorem pd_1 : parseMethodDescriptor "([ZI)V" = some ⟨[(.array .boolean), .int], none⟩ := by decide +kernel
theorem pd_2 : parseMethodDescriptor "()D" = some ⟨[], (some .double)⟩ := by decide +kernel
theorem pd_3 : parseMethodDescriptor "(ZZZ)D" = some ⟨[.boolean, .boolean, .boolean], (some .double)⟩ := by decide +kernel
theorem pn_3 : plainFor (⟨"com/example/keyword_to_concept/keywordtoconcept/evaluation/RankedTopicAveragePrecisionPinLaw", "precisionSum", "(ZZZ)D"⟩ : MethodName) = true := by first | exact plainFor_of_name (by first | (simp [plainName, overriddenIn]; done) | decide +kernel) | decide +kernel
theorem D_m2_0 : Dc method_2_code 0 (.iload_n 0) 1 1 := ⟨by decide +kernel, rfl⟩
theorem D_m2_1 : Dc method_2_code 1 (.ifCond .eq 29) 3 4 := ⟨by decide +kernel, rfl⟩
theorem D_m2_4 : Dc method_2_code 4 (.iload_n 1) 1 5 := ⟨by decide +kernel, rfl⟩
theorem D_m2_5 : Dc method_2_code 5 (.ifCond .eq 15) 3 8 := ⟨by decide +kernel, rfl⟩
theorem D_m2_8 : Dc method_2_code 8 (.iload_n 2) 1 9 := ⟨by decide +kernel, rfl⟩
theorem D_m2_9 : Dc method_2_code 9 (.ifCond .eq 7) 3 12 := ⟨by decide +kernel, rfl⟩
theorem D_m2_12 : Dc method_2_code 12 (.ldc2_w 7) 3 15 := ⟨by decide +kernel, rfl⟩
theorem D_m2_15 : Dc method_2_code 15 (.dreturn) 1 16 := ⟨by decide +kernel, rfl⟩
theorem D_m2_16 : Dc method_2_code 16 (.ldc2_w 9) 3 19 := ⟨by decide +kernel, rfl⟩
theorem D_m2_19 : Dc method_2_code 19 (.dreturn) 1 20 := ⟨by decide +kernel, rfl⟩
theorem D_m2_20 : Dc method_2_code 20 (.iload_n 2) 1 21 := ⟨by decide +kernel, rfl⟩
theorem D_m2_21 : Dc method_2_code 21 (.ifCond .eq 7) 3 24 := ⟨by decide +kernel, rfl⟩
theorem D_m2_24 : Dc method_2_code 24 (.ldc2_w 11) 3 27 := ⟨by decide +kernel, rfl⟩
theorem D_m2_27 : Dc method_2_code 27 (.dreturn) 1 28 := ⟨by decide +kernel, rfl⟩
theorem D_m2_28 : Dc method_2_code 28 (.dconst 1) 1 29 := ⟨by decide +kernel, rfl⟩
theorem D_m2_29 : Dc method_2_code 29 (.dreturn) 1 30 := ⟨by decide +kernel, rfl⟩
theorem D_m2_30 : Dc method_2_code 30 (.iload_n 1) 1 31 := ⟨by decide +kernel, rfl⟩
theorem D_m2_31 : Dc method_2_code 31 (.ifCond .eq 15) 3 34 := ⟨by decide +kernel, rfl⟩
theorem D_m2_34 : Dc method_2_code 34 (.iload_n 2) 1 35 := ⟨by decide +kernel, rfl⟩
theorem D_m2_35 : Dc method_2_code 35 (.ifCond .eq 7) 3 38 := ⟨by decide +kernel, rfl⟩
theorem D_m2_38 : Dc method_2_code 38 (.ldc2_w 13) 3 41 := ⟨by decide +kernel, rfl⟩
theorem D_m2_41 : Dc method_2_code 41 (.dreturn) 1 42 := ⟨by decide +kernel, rfl⟩
theorem D_m2_42 : Dc method_2_code 42 (.ldc2_w 15) 3 45 := ⟨by decide +kernel, rfl⟩
theorem D_m2_45 : Dc method_2_code 45 (.dreturn) 1 46 := ⟨by decide +kernel, rfl⟩
theorem D_m2_46 : Dc method_2_code 46 (.iload_n 2) 1 47 := ⟨by decide +kernel, rfl⟩
theorem D_m2_47 : Dc method_2_code 47 (.ifCond .eq 7) 3 50 := ⟨by decide +kernel, rfl⟩
theorem D_m2_50 : Dc method_2_code 50 (.ldc2_w 17) 3 53 := ⟨by decide +kernel, rfl⟩
theorem D_m2_53 : Dc method_2_code 53 (.dreturn) 1 54 := ⟨by decide +kernel, rfl⟩
theorem D_m2_54 : Dc method_2_code 54 (.dconst 0) 1 55 := ⟨by decide +kernel, rfl⟩
theorem D_m2_55 : Dc method_2_code 55 (.dreturn) 1 56 := ⟨by decide +kernel, rfl⟩
def Q_c_ps_000  (H : OH) : Option Value → OH → Prop := fun v H' => v = some (.double (0 : UInt64)) ∧ H' = H
set_option maxRecDepth 65536 in
set_option maxHeartbeats 40000000 in
theorem c_ps_000 (l : Launch) (Z : State) (a0 : Array Value) (hw : ∀ d ∈ tables_1, d.before a0 Z = true)  (H : OH) :
    Met l Z (⟨"com/example/keyword_to_concept/keywordtoconcept/evaluation/RankedTopicAveragePrecisionPinLaw", "precisionSum", "(ZZZ)D"⟩ : MethodName) method_2_code 3 (some .double) ({ frames := 0, cells := 0, slots := 0, locals := 0 } : Room) [(.int (0 : Int32)), (.int (0 : Int32)), (.int (0 : Int32))] H (Q_c_ps_000  H) := by
  refine Met.of_wp (Ls := #[.val (.int (0 : Int32)), .val (.int (0 : Int32)), .val (.int (0 : Int32))]) pn_3 (fun m => by first | rfl | (simp [entryFrame, mkF, argsToLocals, Value.category]; done)) ?_
  show Wp none l Z "com/example/keyword_to_concept/keywordtoconcept/evaluation/RankedTopicAveragePrecisionPinLaw" "precisionSum" method_2_code 3 (some .double) ({ frames := 0, cells := 0, slots := 0, locals := 0 } : Room) H 0 0 0 #[.val (.int (0 : Int32)), .val (.int (0 : Int32)), .val (.int (0 : Int32))] [] (Q_c_ps_000  H)
  refine wp_iload_n D_m2_0 rfl ?_
  refine wp_if_eq D_m2_1 (pc'' := 30) ⟨by decide, by decide⟩ (fun h1 => ?_) (fun h1 => by exact absurd h1 (by decide))
  refine wp_iload_n D_m2_30 rfl ?_
  refine wp_if_eq D_m2_31 (pc'' := 46) ⟨by decide, by decide⟩ (fun h2 => ?_) (fun h2 => by exact absurd h2 (by decide))
  refine wp_iload_n D_m2_46 rfl ?_
  refine wp_if_eq D_m2_47 (pc'' := 54) ⟨by decide, by decide⟩ (fun h3 => ?_) (fun h3 => by exact absurd h3 (by decide))
  refine wp_dconst0 0 D_m2_54 (by decide +kernel) ?_
  refine wp_dreturn D_m2_55 rfl (by decide) (by decide) ?_
  exact ⟨rfl, rfl⟩
def Q_c_ps_001  (H : OH) : Option Value → OH → Prop := fun v H' => v = some (.double (4599676419421066581 : UInt64)) ∧ H' = H
set_option maxRecDepth 65536 in
set_option maxHeartbeats 40000000 in
theorem c_ps_001 (l : Launch) (Z : State) (a0 : Array Value) (hw : ∀ d ∈ tables_1, d.before a0 Z = true)  (H : OH) :
    Met l Z (⟨"com/example/keyword_to_concept/keywordtoconcept/evaluation/RankedTopicAveragePrecisionPinLaw", "precisionSum", "(ZZZ)D"⟩ : MethodName) method_2_code 3 (some .double) ({ frames := 0, cells := 0, slots := 0, locals := 0 } : Room) [(.int (0 : Int32)), (.int (0 : Int32)), (.int (1 : Int32))] H (Q_c_ps_001  H) := by
  refine Met.of_wp (Ls := #[.val (.int (0 : Int32)), .val (.int (0 : Int32)), .val (.int (1 : Int32))]) pn_3 (fun m => by first | rfl | (simp [entryFrame, mkF, argsToLocals, Value.category]; done)) ?_
  show Wp none l Z "com/example/keyword_to_concept/keywordtoconcept/evaluation/RankedTopicAveragePrecisionPinLaw" "precisionSum" method_2_code 3 (some .double) ({ frames := 0, cells := 0, slots := 0, locals := 0 } : Room) H 0 0 0 #[.val (.int (0 : Int32)), .val (.int (0 : Int32)), .val (.int (1 : Int32))] [] (Q_c_ps_001  H)
  refine wp_iload_n D_m2_0 rfl ?_
  refine wp_if_eq D_m2_1 (pc'' := 30) ⟨by decide, by decide⟩ (fun h1 => ?_) (fun h1 => by exact absurd h1 (by decide))
  refine wp_iload_n D_m2_30 rfl ?_
  refine wp_if_eq D_m2_31 (pc'' := 46) ⟨by decide, by decide⟩ (fun h2 => ?_) (fun h2 => by exact absurd h2 (by decide))
  refine wp_iload_n D_m2_46 rfl ?_
  refine wp_if_eq D_m2_47 (pc'' := 54) ⟨by decide, by decide⟩ (fun h3 => by exact absurd h3 (by decide)) (fun h3 => ?_)
  refine wp_ldc2D D_m2_50 (hw _ (List.mem_of_getElem? (i := 29) rfl)) ?_
  refine wp_dreturn D_m2_53 rfl (by decide) (by decide) ?_
  exact ⟨rfl, rfl⟩
def Q_c_ps_010  (H : OH) : Option Value → OH → Prop := fun v H' => v = some (.double (4602678819172646912 : UInt64)) ∧ H' = H
set_option maxRecDepth 65536 in
set_option maxHeartbeats 40000000 in
theorem c_ps_010 (l : Launch) (Z : State) (a0 : Array Value) (hw : ∀ d ∈ tables_1, d.before a0 Z = true)  (H : OH) :
    Met l Z (⟨"com/example/keyword_to_concept/keywordtoconcept/evaluation/RankedTopicAveragePrecisionPinLaw", "precisionSum", "(ZZZ)D"⟩ : MethodName) method_2_code 3 (some .double) ({ frames := 0, cells := 0, slots := 0, locals := 0 } : Room) [(.int (0 : Int32)), (.int (1 : Int32)), (.int (0 : Int32))] H (Q_c_ps_010  H) := by
  refine Met.of_wp (Ls := #[.val (.int (0 : Int32)), .val (.int (1 : Int32)), .val (.int (0 : Int32))]) pn_3 (fun m => by first | rfl | (simp [entryFrame, mkF, argsToLocals, Value.category]; done)) ?_
  show Wp none l Z "com/example/keyword_to_concept/keywordtoconcept/evaluation/RankedTopicAveragePrecisionPinLaw" "precisionSum" method_2_code 3 (some .double) ({ frames := 0, cells := 0, slots := 0, locals := 0 } : Room) H 0 0 0 #[.val (.int (0 : Int32)), .val (.int (1 : Int32)), .val (.int (0 : Int32))] [] (Q_c_ps_010  H)
  refine wp_iload_n D_m2_0 rfl ?_
  refine wp_if_eq D_m2_1 (pc'' := 30) ⟨by decide, by decide⟩ (fun h1 => ?_) (fun h1 => by exact absurd h1 (by decide))
  refine wp_iload_n D_m2_30 rfl ?_
  refine wp_if_eq D_m2_31 (pc'' := 46) ⟨by decide, by decide⟩ (fun h2 => by exact absurd h2 (by decide)) (fun h2 => ?_)
  refine wp_iload_n D_m2_34 rfl ?_
  refine wp_if_eq D_m2_35 (pc'' := 42) ⟨by decide, by decide⟩ (fun h3 => ?_) (fun h3 => by exact absurd h3 (by decide))
  refine wp_ldc2D D_m2_42 (hw _ (List.mem_of_getElem? (i := 27) rfl)) ?_
  refine wp_dreturn D_m2_45 rfl (by decide) (by decide) ?_
  exact ⟨rfl, rfl⟩
def Q_c_ps_011  (H : OH) : Option Value → OH → Prop := fun v H' => v = some (.double (4607933018737912490 : UInt64)) ∧ H' = H
set_option maxRecDepth 65536 in
set_option maxHeartbeats 40000000 in
theorem c_ps_011 (l : Launch) (Z : State) (a0 : Array Value) (hw : ∀ d ∈ tables_1, d.before a0 Z = true)  (H : OH) :
    Met l Z (⟨"com/example/keyword_to_concept/keywordtoconcept/evaluation/RankedTopicAveragePrecisionPinLaw", "precisionSum", "(ZZZ)D"⟩ : MethodName) method_2_code 3 (some .double) ({ frames := 0, cells := 0, slots := 0, locals := 0 } : Room) [(.int (0 : Int32)), (.int (1 : Int32)), (.int (1 : Int32))] H (Q_c_ps_011  H) := by
  refine Met.of_wp (Ls := #[.val (.int (0 : Int32)), .val (.int (1 : Int32)), .val (.int (1 : Int32))]) pn_3 (fun m => by first | rfl | (simp [entryFrame, mkF, argsToLocals, Value.category]; done)) ?_
  show Wp none l Z "com/example/keyword_to_concept/keywordtoconcept/evaluation/RankedTopicAveragePrecisionPinLaw" "precisionSum" method_2_code 3 (some .double) ({ frames := 0, cells := 0, slots := 0, locals := 0 } : Room) H 0 0 0 #[.val (.int (0 : Int32)), .val (.int (1 : Int32)), .val (.int (1 : Int32))] [] (Q_c_ps_011  H)
  refine wp_iload_n D_m2_0 rfl ?_
  refine wp_if_eq D_m2_1 (pc'' := 30) ⟨by decide, by decide⟩ (fun h1 => ?_) (fun h1 => by exact absurd h1 (by decide))
  refine wp_iload_n D_m2_30 rfl ?_
  refine wp_if_eq D_m2_31 (pc'' := 46) ⟨by decide, by decide⟩ (fun h2 => by exact absurd h2 (by decide)) (fun h2 => ?_)
  refine wp_iload_n D_m2_34 rfl ?_
  refine wp_if_eq D_m2_35 (pc'' := 42) ⟨by decide, by decide⟩ (fun h3 => by exact absurd h3 (by decide)) (fun h3 => ?_)
  refine wp_ldc2D D_m2_38 (hw _ (List.mem_of_getElem? (i := 28) rfl)) ?_
  refine wp_dreturn D_m2_41 rfl (by decide) (by decide) ?_
  exact ⟨rfl, rfl⟩
def Q_c_ps_100  (H : OH) : Option Value → OH → Prop := fun v H' => v = some (.double (4607182418800017408 : UInt64)) ∧ H' = H
set_option maxRecDepth 65536 in
set_option maxHeartbeats 40000000 in
theorem c_ps_100 (l : Launch) (Z : State) (a0 : Array Value) (hw : ∀ d ∈ tables_1, d.before a0 Z = true)  (H : OH) :
    Met l Z (⟨"com/example/keyword_to_concept/keywordtoconcept/evaluation/RankedTopicAveragePrecisionPinLaw", "precisionSum", "(ZZZ)D"⟩ : MethodName) method_2_code 3 (some .double) ({ frames := 0, cells := 0, slots := 0, locals := 0 } : Room) [(.int (1 : Int32)), (.int (0 : Int32)), (.int (0 : Int32))] H (Q_c_ps_100  H) := by
  refine Met.of_wp (Ls := #[.val (.int (1 : Int32)), .val (.int (0 : Int32)), .val (.int (0 : Int32))]) pn_3 (fun m => by first | rfl | (simp [entryFrame, mkF, argsToLocals, Value.category]; done)) ?_
  show Wp none l Z "com/example/keyword_to_concept/keywordtoconcept/evaluation/RankedTopicAveragePrecisionPinLaw" "precisionSum" method_2_code 3 (some .double) ({ frames := 0, cells := 0, slots := 0, locals := 0 } : Room) H 0 0 0 #[.val (.int (1 : Int32)), .val (.int (0 : Int32)), .val (.int (0 : Int32))] [] (Q_c_ps_100  H)
  refine wp_iload_n D_m2_0 rfl ?_
  refine wp_if_eq D_m2_1 (pc'' := 30) ⟨by decide, by decide⟩ (fun h1 => by exact absurd h1 (by decide)) (fun h1 => ?_)
  refine wp_iload_n D_m2_4 rfl ?_
  refine wp_if_eq D_m2_5 (pc'' := 20) ⟨by decide, by decide⟩ (fun h2 => ?_) (fun h2 => by exact absurd h2 (by decide))
  refine wp_iload_n D_m2_20 rfl ?_
  refine wp_if_eq D_m2_21 (pc'' := 28) ⟨by decide, by decide⟩ (fun h3 => ?_) (fun h3 => by exact absurd h3 (by decide))
  refine wp_dconst1 4607182418800017408 D_m2_28 (by decide +kernel) ?_
  refine wp_dreturn D_m2_29 rfl (by decide) (by decide) ?_
  exact ⟨rfl, rfl⟩
def Q_c_ps_101  (H : OH) : Option Value → OH → Prop := fun v H' => v = some (.double (4610184818551597738 : UInt64)) ∧ H' = H
set_option maxRecDepth 65536 in
set_option maxHeartbeats 40000000 in
theorem c_ps_101 (l : Launch) (Z : State) (a0 : Array Value) (hw : ∀ d ∈ tables_1, d.before a0 Z = true)  (H : OH) :
    Met l Z (⟨"com/example/keyword_to_concept/keywordtoconcept/evaluation/RankedTopicAveragePrecisionPinLaw", "precisionSum", "(ZZZ)D"⟩ : MethodName) method_2_code 3 (some .double) ({ frames := 0, cells := 0, slots := 0, locals := 0 } : Room) [(.int (1 : Int32)), (.int (0 : Int32)), (.int (1 : Int32))] H (Q_c_ps_101  H) := by
  refine Met.of_wp (Ls := #[.val (.int (1 : Int32)), .val (.int (0 : Int32)), .val (.int (1 : Int32))]) pn_3 (fun m => by first | rfl | (simp [entryFrame, mkF, argsToLocals, Value.category]; done)) ?_
  show Wp none l Z "com/example/keyword_to_concept/keywordtoconcept/evaluation/RankedTopicAveragePrecisionPinLaw" "precisionSum" method_2_code 3 (some .double) ({ frames := 0, cells := 0, slots := 0, locals := 0 } : Room) H 0 0 0 #[.val (.int (1 : Int32)), .val (.int (0 : Int32)), .val (.int (1 : Int32))] [] (Q_c_ps_101  H)
  refine wp_iload_n D_m2_0 rfl ?_
  refine wp_if_eq D_m2_1 (pc'' := 30) ⟨by decide, by decide⟩ (fun h1 => by exact absurd h1 (by decide)) (fun h1 => ?_)
  refine wp_iload_n D_m2_4 rfl ?_
  refine wp_if_eq D_m2_5 (pc'' := 20) ⟨by decide, by decide⟩ (fun h2 => ?_) (fun h2 => by exact absurd h2 (by decide))
  refine wp_iload_n D_m2_20 rfl ?_
  refine wp_if_eq D_m2_21 (pc'' := 28) ⟨by decide, by decide⟩ (fun h3 => by exact absurd h3 (by decide)) (fun h3 => ?_)
  refine wp_ldc2D D_m2_24 (hw _ (List.mem_of_getElem? (i := 25) rfl)) ?_
  refine wp_dreturn D_m2_27 rfl (by decide) (by decide) ?_
  exact ⟨rfl, rfl⟩
def Q_c_ps_110  (H : OH) : Option Value → OH → Prop := fun v H' => v = some (.double (4611686018427387904 : UInt64)) ∧ H' = H
set_option maxRecDepth 65536 in
set_option maxHeartbeats 40000000 in
theorem c_ps_110 (l : Launch) (Z : State) (a0 : Array Value) (hw : ∀ d ∈ tables_1, d.before a0 Z = true)  (H : OH) :
    Met l Z (⟨"com/example/keyword_to_concept/keywordtoconcept/evaluation/RankedTopicAveragePrecisionPinLaw", "precisionSum", "(ZZZ)D"⟩ : MethodName) method_2_code 3 (some .double) ({ frames := 0, cells := 0, slots := 0, locals := 0 } : Room) [(.int (1 : Int32)), (.int (1 : Int32)), (.int (0 : Int32))] H (Q_c_ps_110  H) := by
  refine Met.of_wp (Ls := #[.val (.int (1 : Int32)), .val (.int (1 : Int32)), .val (.int (0 : Int32))]) pn_3 (fun m => by first | rfl | (simp [entryFrame, mkF, argsToLocals, Value.category]; done)) ?_
  show Wp none l Z "com/example/keyword_to_concept/keywordtoconcept/evaluation/RankedTopicAveragePrecisionPinLaw" "precisionSum" method_2_code 3 (some .double) ({ frames := 0, cells := 0, slots := 0, locals := 0 } : Room) H 0 0 0 #[.val (.int (1 : Int32)), .val (.int (1 : Int32)), .val (.int (0 : Int32))] [] (Q_c_ps_110  H)
  refine wp_iload_n D_m2_0 rfl ?_
  refine wp_if_eq D_m2_1 (pc'' := 30) ⟨by decide, by decide⟩ (fun h1 => by exact absurd h1 (by decide)) (fun h1 => ?_)
  refine wp_iload_n D_m2_4 rfl ?_
  refine wp_if_eq D_m2_5 (pc'' := 20) ⟨by decide, by decide⟩ (fun h2 => by exact absurd h2 (by decide)) (fun h2 => ?_)
  refine wp_iload_n D_m2_8 rfl ?_
  refine wp_if_eq D_m2_9 (pc'' := 16) ⟨by decide, by decide⟩ (fun h3 => ?_) (fun h3 => by exact absurd h3 (by decide))
  refine wp_ldc2D D_m2_16 (hw _ (List.mem_of_getElem? (i := 24) rfl)) ?_
  refine wp_dreturn D_m2_19 rfl (by decide) (by decide) ?_
  exact ⟨rfl, rfl⟩
def Q_c_ps_111  (H : OH) : Option Value → OH → Prop := fun v H' => v = some (.double (4613937818241073152 : UInt64)) ∧ H' = H
set_option maxRecDepth 65536 in
set_option maxHeartbeats 40000000 in
theorem c_ps_111 (l : Launch) (Z : State) (a0 : Array Value) (hw : ∀ d ∈ tables_1, d.before a0 Z = true)  (H : OH) :
    Met l Z (⟨"com/example/keyword_to_concept/keywordtoconcept/evaluation/RankedTopicAveragePrecisionPinLaw", "precisionSum", "(ZZZ)D"⟩ : MethodName) method_2_code 3 (some .double) ({ frames := 0, cells := 0, slots := 0, locals := 0 } : Room) [(.int (1 : Int32)), (.int (1 : Int32)), (.int (1 : Int32))] H (Q_c_ps_111  H) := by
  refine Met.of_wp (Ls := #[.val (.int (1 : Int32)), .val (.int (1 : Int32)), .val (.int (1 : Int32))]) pn_3 (fun m => by first | rfl | (simp [entryFrame, mkF, argsToLocals, Value.category]; done)) ?_
  show Wp none l Z "com/example/keyword_to_concept/keywordtoconcept/evaluation/RankedTopicAveragePrecisionPinLaw" "precisionSum" method_2_code 3 (some .double) ({ frames := 0, cells := 0, slots := 0, locals := 0 } : Room) H 0 0 0 #[.val (.int (1 : Int32)), .val (.int (1 : Int32)), .val (.int (1 : Int32))] [] (Q_c_ps_111  H)
  refine wp_iload_n D_m2_0 rfl ?_
  refine wp_if_eq D_m2_1 (pc'' := 30) ⟨by decide, by decide⟩ (fun h1 => by exact absurd h1 (by decide)) (fun h1 => ?_)
  refine wp_iload_n D_m2_4 rfl ?_
  refine wp_if_eq D_m2_5 (pc'' := 20) ⟨by decide, by decide⟩ (fun h2 => by exact absurd h2 (by decide)) (fun h2 => ?_)
  refine wp_iload_n D_m2_8 rfl ?_
  refine wp_if_eq D_m2_9 (pc'' := 16) ⟨by decide, by decide⟩ (fun h3 => by exact absurd h3 (by decide)) (fun h3 => ?_)
  refine wp_ldc2D D_m2_12 (hw _ (List.mem_of_getElem? (i := 26) rfl)) ?_
  refine wp_dreturn D_m2_15 rfl (by decide) (by decide) ?_
  exact ⟨rfl, rfl⟩
theorem pn_4 : plainFor (⟨"com/example/keyword_to_concept/keywordtoconcept/evaluation/RankedTopicAveragePrecisionPinLaw", "law", "(II)Z"⟩ : MethodName) = true := by first | exact plainFor_of_name (by first | (simp [plainName, overriddenIn]; done) | decide +kernel) | decide +kernel
def Q_law : Option Value → OH → Prop := fun v H' => v = some (.int 1)
theorem D_0 : Dc code 0 (.iload_n 0) 1 1 := ⟨at_0, rfl⟩
theorem D_1 : Dc code 1 (.iconst 3) 1 2 := ⟨at_1, rfl⟩
theorem D_2 : Dc code 2 (.iand) 1 3 := ⟨at_2, rfl⟩
theorem D_3 : Dc code 3 (.istore_n 2) 1 4 := ⟨at_3, rfl⟩
theorem D_4 : Dc code 4 (.iload_n 0) 1 5 := ⟨at_4, rfl⟩
theorem D_5 : Dc code 5 (.iconst 2) 1 6 := ⟨at_5, rfl⟩
theorem D_6 : Dc code 6 (.iushr) 1 7 := ⟨at_6, rfl⟩
theorem D_7 : Dc code 7 (.istore_n 3) 1 8 := ⟨at_7, rfl⟩
theorem D_8 : Dc code 8 (.iload_n 2) 1 9 := ⟨at_8, rfl⟩
theorem D_9 : Dc code 9 (.ifCond .le 13) 3 12 := ⟨at_9, rfl⟩
theorem D_12 : Dc code 12 (.iload_n 3) 1 13 := ⟨at_12, rfl⟩
theorem D_13 : Dc code 13 (.iconst 1) 1 14 := ⟨at_13, rfl⟩
theorem D_14 : Dc code 14 (.iand) 1 15 := ⟨at_14, rfl⟩
theorem D_15 : Dc code 15 (.ifCond .eq 7) 3 18 := ⟨at_15, rfl⟩
theorem D_18 : Dc code 18 (.iconst 1) 1 19 := ⟨at_18, rfl⟩
theorem D_19 : Dc code 19 (.goto 4) 3 22 := ⟨at_19, rfl⟩
theorem D_22 : Dc code 22 (.iconst 0) 1 23 := ⟨at_22, rfl⟩
theorem D_23 : Dc code 23 (.istore 4) 2 25 := ⟨at_23, rfl⟩
theorem D_25 : Dc code 25 (.iload_n 2) 1 26 := ⟨at_25, rfl⟩
theorem D_26 : Dc code 26 (.iconst 1) 1 27 := ⟨at_26, rfl⟩
theorem D_27 : Dc code 27 (.if_icmp .le 13) 3 30 := ⟨at_27, rfl⟩
theorem D_30 : Dc code 30 (.iload_n 3) 1 31 := ⟨at_30, rfl⟩
theorem D_31 : Dc code 31 (.iconst 2) 1 32 := ⟨at_31, rfl⟩
theorem D_32 : Dc code 32 (.iand) 1 33 := ⟨at_32, rfl⟩
theorem D_33 : Dc code 33 (.ifCond .eq 7) 3 36 := ⟨at_33, rfl⟩
theorem D_36 : Dc code 36 (.iconst 1) 1 37 := ⟨at_36, rfl⟩
theorem D_37 : Dc code 37 (.goto 4) 3 40 := ⟨at_37, rfl⟩
theorem D_40 : Dc code 40 (.iconst 0) 1 41 := ⟨at_40, rfl⟩
theorem D_41 : Dc code 41 (.istore 5) 2 43 := ⟨at_41, rfl⟩
theorem D_43 : Dc code 43 (.iload_n 2) 1 44 := ⟨at_43, rfl⟩
theorem D_44 : Dc code 44 (.iconst 2) 1 45 := ⟨at_44, rfl⟩
theorem D_45 : Dc code 45 (.if_icmp .le 13) 3 48 := ⟨at_45, rfl⟩
theorem D_48 : Dc code 48 (.iload_n 3) 1 49 := ⟨at_48, rfl⟩
theorem D_49 : Dc code 49 (.iconst 4) 1 50 := ⟨at_49, rfl⟩
theorem D_50 : Dc code 50 (.iand) 1 51 := ⟨at_50, rfl⟩
theorem D_51 : Dc code 51 (.ifCond .eq 7) 3 54 := ⟨at_51, rfl⟩
theorem D_54 : Dc code 54 (.iconst 1) 1 55 := ⟨at_54, rfl⟩
theorem D_55 : Dc code 55 (.goto 4) 3 58 := ⟨at_55, rfl⟩
theorem D_58 : Dc code 58 (.iconst 0) 1 59 := ⟨at_58, rfl⟩
theorem D_59 : Dc code 59 (.istore 6) 2 61 := ⟨at_59, rfl⟩
theorem D_61 : Dc code 61 (.iload_n 2) 1 62 := ⟨at_61, rfl⟩
theorem D_62 : Dc code 62 (.newarray .boolean) 2 64 := ⟨at_62, rfl⟩
theorem D_64 : Dc code 64 (.astore 7) 2 66 := ⟨at_64, rfl⟩
theorem D_66 : Dc code 66 (.iload_n 2) 1 67 := ⟨at_66, rfl⟩
theorem D_67 : Dc code 67 (.ifCond .le 9) 3 70 := ⟨at_67, rfl⟩
theorem D_70 : Dc code 70 (.aload 7) 2 72 := ⟨at_70, rfl⟩
theorem D_72 : Dc code 72 (.iconst 0) 1 73 := ⟨at_72, rfl⟩
theorem D_73 : Dc code 73 (.iload 4) 2 75 := ⟨at_73, rfl⟩
theorem D_75 : Dc code 75 (.bastore) 1 76 := ⟨at_75, rfl⟩
theorem D_76 : Dc code 76 (.iload_n 2) 1 77 := ⟨at_76, rfl⟩
theorem D_77 : Dc code 77 (.iconst 1) 1 78 := ⟨at_77, rfl⟩
theorem D_78 : Dc code 78 (.if_icmp .le 9) 3 81 := ⟨at_78, rfl⟩
theorem D_81 : Dc code 81 (.aload 7) 2 83 := ⟨at_81, rfl⟩
theorem D_83 : Dc code 83 (.iconst 1) 1 84 := ⟨at_83, rfl⟩
theorem D_84 : Dc code 84 (.iload 5) 2 86 := ⟨at_84, rfl⟩
theorem D_86 : Dc code 86 (.bastore) 1 87 := ⟨at_86, rfl⟩
theorem D_87 : Dc code 87 (.iload_n 2) 1 88 := ⟨at_87, rfl⟩
theorem D_88 : Dc code 88 (.iconst 2) 1 89 := ⟨at_88, rfl⟩
theorem D_89 : Dc code 89 (.if_icmp .le 9) 3 92 := ⟨at_89, rfl⟩
theorem D_92 : Dc code 92 (.aload 7) 2 94 := ⟨at_92, rfl⟩
theorem D_94 : Dc code 94 (.iconst 2) 1 95 := ⟨at_94, rfl⟩
theorem D_95 : Dc code 95 (.iload 6) 2 97 := ⟨at_95, rfl⟩
theorem D_97 : Dc code 97 (.bastore) 1 98 := ⟨at_97, rfl⟩
theorem D_98 : Dc code 98 (.iload_n 1) 1 99 := ⟨at_98, rfl⟩
theorem D_99 : Dc code 99 (.ldc 19) 2 101 := ⟨at_99, rfl⟩
theorem D_101 : Dc code 101 (.iand) 1 102 := ⟨at_101, rfl⟩
theorem D_102 : Dc code 102 (.istore 8) 2 104 := ⟨at_102, rfl⟩
theorem D_104 : Dc code 104 (.new 20) 3 107 := ⟨at_104, rfl⟩
theorem D_107 : Dc code 107 (.dup) 1 108 := ⟨at_107, rfl⟩
theorem D_108 : Dc code 108 (.aload 7) 2 110 := ⟨at_108, rfl⟩
theorem D_110 : Dc code 110 (.iload 8) 2 112 := ⟨at_110, rfl⟩
theorem D_112 : Dc code 112 (.invokespecial 22) 3 115 := ⟨at_112, rfl⟩
theorem D_115 : Dc code 115 (.astore 9) 2 117 := ⟨at_115, rfl⟩
theorem D_117 : Dc code 117 (.aload 9) 2 119 := ⟨at_117, rfl⟩
theorem D_119 : Dc code 119 (.invokevirtual 25) 3 122 := ⟨at_119, rfl⟩
theorem D_122 : Dc code 122 (.dstore 10) 2 124 := ⟨at_122, rfl⟩
theorem D_124 : Dc code 124 (.iload 4) 2 126 := ⟨at_124, rfl⟩
theorem D_126 : Dc code 126 (.iload 5) 2 128 := ⟨at_126, rfl⟩
theorem D_128 : Dc code 128 (.iload 6) 2 130 := ⟨at_128, rfl⟩
theorem D_130 : Dc code 130 (.invokestatic 29) 3 133 := ⟨at_130, rfl⟩
theorem D_133 : Dc code 133 (.dstore 12) 2 135 := ⟨at_133, rfl⟩
theorem D_135 : Dc code 135 (.iload 8) 2 137 := ⟨at_135, rfl⟩
theorem D_137 : Dc code 137 (.ifCond .ne 7) 3 140 := ⟨at_137, rfl⟩
theorem D_140 : Dc code 140 (.dconst 0) 1 141 := ⟨at_140, rfl⟩
theorem D_141 : Dc code 141 (.goto 9) 3 144 := ⟨at_141, rfl⟩
theorem D_144 : Dc code 144 (.dload 12) 2 146 := ⟨at_144, rfl⟩
theorem D_146 : Dc code 146 (.iload 8) 2 148 := ⟨at_146, rfl⟩
theorem D_148 : Dc code 148 (.i2d) 1 149 := ⟨at_148, rfl⟩
theorem D_149 : Dc code 149 (.ddiv) 1 150 := ⟨at_149, rfl⟩
theorem D_150 : Dc code 150 (.dstore 14) 2 152 := ⟨at_150, rfl⟩
theorem D_152 : Dc code 152 (.dload 10) 2 154 := ⟨at_152, rfl⟩
theorem D_154 : Dc code 154 (.dload 14) 2 156 := ⟨at_154, rfl⟩
theorem D_156 : Dc code 156 (.dcmp .l) 1 157 := ⟨at_156, rfl⟩
theorem D_157 : Dc code 157 (.ifCond .ne 7) 3 160 := ⟨at_157, rfl⟩
theorem D_160 : Dc code 160 (.iconst 1) 1 161 := ⟨at_160, rfl⟩
theorem D_161 : Dc code 161 (.goto 4) 3 164 := ⟨at_161, rfl⟩
theorem D_164 : Dc code 164 (.iconst 0) 1 165 := ⟨at_164, rfl⟩
theorem D_165 : Dc code 165 (.ireturn) 1 166 := ⟨at_165, rfl⟩
set_option maxRecDepth 65536 in
set_option maxHeartbeats 40000000 in
theorem law_wp (l : Launch) (Z : State) (a0 : Array Value) (hw : ∀ d ∈ tables_1, d.before a0 Z = true) (a : Int32) (b : Int32)  : Wp none l Z "com/example/keyword_to_concept/keywordtoconcept/evaluation/RankedTopicAveragePrecisionPinLaw" "law" code maxLocals ret room_1 [] 0 0 0 #[.val (.int a), .val (.int b), .unset, .unset, .unset, .unset, .unset, .unset, .unset, .unset, .unset, .unset, .unset, .unset, .unset, .unset] [] Q_law := by
  refine wp_iload_n D_0 rfl ?_
  refine wp_iconst 3 D_1 (by decide) ?_
  refine wp_iand D_2 ?_
  generalize hg_x1 : (a &&& (3 : Int32)) = x1
  refine wp_istore_n #[.val (.int a), .val (.int b), .val (.int x1), .unset, .unset, .unset, .unset, .unset, .unset, .unset, .unset, .unset, .unset, .unset, .unset, .unset] D_3 rfl ?_
  refine wp_iload_n D_4 rfl ?_
  refine wp_iconst 2 D_5 (by decide) ?_
  refine wp_iushr D_6 ?_
  generalize hg_x2 : (XT.ushr a (2 : Int32)) = x2
  refine wp_istore_n #[.val (.int a), .val (.int b), .val (.int x1), .val (.int x2), .unset, .unset, .unset, .unset, .unset, .unset, .unset, .unset, .unset, .unset, .unset, .unset] D_7 rfl ?_
  have hs_x1 : x1 = (0 : Int32) ∨ x1 = (1 : Int32) ∨ x1 = (2 : Int32) ∨ x1 = (3 : Int32) := by
    have h2 : (a &&& 3).toInt = a.toInt % 4 := c_mask a 3 2 (by decide) (by decide)
    rw [hg_x1] at h2
    simp only [← Int32.toInt_inj, Int32.reduceToInt]
    omega
  rcases hs_x1 with hs_x1 | hs_x1 | hs_x1 | hs_x1
  · subst hs_x1
    show Wp none l Z "com/example/keyword_to_concept/keywordtoconcept/evaluation/RankedTopicAveragePrecisionPinLaw" "law" code maxLocals ret room_1 [] 0 0 8 #[.val (.int a), .val (.int b), .val (.int (0 : Int32)), .val (.int x2), .unset, .unset, .unset, .unset, .unset, .unset, .unset, .unset, .unset, .unset, .unset, .unset] [] Q_law
    refine wp_iload_n D_8 rfl ?_
    refine wp_if_le D_9 (pc'' := 22) ⟨by decide, by decide⟩ (fun h3 => ?_) (fun h3 => by exact absurd h3 (by decide))
    refine wp_iconst 0 D_22 (by decide) ?_
    refine wp_istore #[.val (.int a), .val (.int b), .val (.int (0 : Int32)), .val (.int x2), .val (.int (0 : Int32)), .unset, .unset, .unset, .unset, .unset, .unset, .unset, .unset, .unset, .unset, .unset] D_23 rfl ?_
    refine wp_iload_n D_25 rfl ?_
    refine wp_iconst 1 D_26 (by decide) ?_
    refine wp_icmp_le D_27 (pc'' := 40) ⟨by decide, by decide⟩ (fun h4 => ?_) (fun h4 => by exact absurd h4 (by decide))
    refine wp_iconst 0 D_40 (by decide) ?_
    refine wp_istore #[.val (.int a), .val (.int b), .val (.int (0 : Int32)), .val (.int x2), .val (.int (0 : Int32)), .val (.int (0 : Int32)), .unset, .unset, .unset, .unset, .unset, .unset, .unset, .unset, .unset, .unset] D_41 rfl ?_
    refine wp_iload_n D_43 rfl ?_
    refine wp_iconst 2 D_44 (by decide) ?_
    refine wp_icmp_le D_45 (pc'' := 58) ⟨by decide, by decide⟩ (fun h5 => ?_) (fun h5 => by exact absurd h5 (by decide))
    refine wp_iconst 0 D_58 (by decide) ?_
    refine wp_istore #[.val (.int a), .val (.int b), .val (.int (0 : Int32)), .val (.int x2), .val (.int (0 : Int32)), .val (.int (0 : Int32)), .val (.int (0 : Int32)), .unset, .unset, .unset, .unset, .unset, .unset, .unset, .unset, .unset] D_59 rfl ?_
    refine wp_iload_n D_61 rfl ?_
    refine wp_newarrayI (n := (0 : Int32)) (0) 0 D_62 rfl rfl rfl (hw _ (List.mem_of_getElem? (i := 0) rfl)) (by decide) (by decide) (by decide) (by decide) (by decide) (by decide) ?_
    intro a6
    show Wp none l Z "com/example/keyword_to_concept/keywordtoconcept/evaluation/RankedTopicAveragePrecisionPinLaw" "law" code maxLocals ret room_1 [(a6, oA .boolean [])] 1 0 64 #[.val (.int a), .val (.int b), .val (.int (0 : Int32)), .val (.int x2), .val (.int (0 : Int32)), .val (.int (0 : Int32)), .val (.int (0 : Int32)), .unset, .unset, .unset, .unset, .unset, .unset, .unset, .unset, .unset] [(.ref a6)] Q_law
    refine wp_astore #[.val (.int a), .val (.int b), .val (.int (0 : Int32)), .val (.int x2), .val (.int (0 : Int32)), .val (.int (0 : Int32)), .val (.int (0 : Int32)), .val (.ref a6), .unset, .unset, .unset, .unset, .unset, .unset, .unset, .unset] D_64 rfl rfl ?_
    refine wp_iload_n D_66 rfl ?_
    refine wp_if_le D_67 (pc'' := 76) ⟨by decide, by decide⟩ (fun h7 => ?_) (fun h7 => by exact absurd h7 (by decide))
    refine wp_iload_n D_76 rfl ?_
    refine wp_iconst 1 D_77 (by decide) ?_
    refine wp_icmp_le D_78 (pc'' := 87) ⟨by decide, by decide⟩ (fun h8 => ?_) (fun h8 => by exact absurd h8 (by decide))
    refine wp_iload_n D_87 rfl ?_
    refine wp_iconst 2 D_88 (by decide) ?_
    refine wp_icmp_le D_89 (pc'' := 98) ⟨by decide, by decide⟩ (fun h9 => ?_) (fun h9 => by exact absurd h9 (by decide))
    refine wp_iload_n D_98 rfl ?_
    refine wp_ldcI D_99 (hw _ (List.mem_of_getElem? (i := 1) rfl)) ?_
    refine wp_iand D_101 ?_
    generalize hg_x10 : (b &&& (2147483647 : Int32)) = x10
    refine wp_istore #[.val (.int a), .val (.int b), .val (.int (0 : Int32)), .val (.int x2), .val (.int (0 : Int32)), .val (.int (0 : Int32)), .val (.int (0 : Int32)), .val (.ref a6), .val (.int x10), .unset, .unset, .unset, .unset, .unset, .unset, .unset] D_102 rfl ?_
    refine wp_new sg_1 [(.null), (.int (0 : Int32))] D_104 (hw _ (List.mem_of_getElem? (i := 2) rfl)) (hw _ (List.mem_of_getElem? (i := 3) rfl)) (hw _ (List.mem_of_getElem? (i := 4) rfl)) (laid_sg_1 l Z a0 hw) (by decide) dfl_sg_1 (by decide) (by decide) ?_
    intro a11
    show Wp none l Z "com/example/keyword_to_concept/keywordtoconcept/evaluation/RankedTopicAveragePrecisionPinLaw" "law" code maxLocals ret room_1 [(a11, oI "com/example/keyword_to_concept/keywordtoconcept/evaluation/RankedTopic" sg_1 [(.null), (.int (0 : Int32))]), (a6, oA .boolean [])] 2 2 107 #[.val (.int a), .val (.int b), .val (.int (0 : Int32)), .val (.int x2), .val (.int (0 : Int32)), .val (.int (0 : Int32)), .val (.int (0 : Int32)), .val (.ref a6), .val (.int x10), .unset, .unset, .unset, .unset, .unset, .unset, .unset] [(.ref a11)] Q_law
    refine wp_dup D_107 rfl ?_
    refine wp_aload D_108 rfl rfl ?_
    refine wp_iload D_110 rfl ?_
    refine wp_init (c_ini l Z a0 hw a11 a6 x10 [(a6, oA .boolean [])]) D_112 rfl (hw _ (List.mem_of_getElem? (i := 5) rfl)) (hw _ (List.mem_of_getElem? (i := 6) rfl)) (hw _ (List.mem_of_getElem? (i := 4) rfl)) (hw _ (List.mem_of_getElem? (i := 7) rfl)) (by decide) pd_1 rfl rfl rfl (Nat.le_of_ble_eq_true rfl) (Nat.le_of_ble_eq_true rfl) (Nat.le_of_ble_eq_true rfl) (Nat.le_of_ble_eq_true rfl) ?_
    rintro _ _ ⟨rfl, rfl⟩
    show Wp none l Z "com/example/keyword_to_concept/keywordtoconcept/evaluation/RankedTopicAveragePrecisionPinLaw" "law" code maxLocals ret room_1 [(a11, oI "com/example/keyword_to_concept/keywordtoconcept/evaluation/RankedTopic" sg_1 [(.ref a6), (.int x10)]), (a6, oA .boolean [])] 2 2 115 #[.val (.int a), .val (.int b), .val (.int (0 : Int32)), .val (.int x2), .val (.int (0 : Int32)), .val (.int (0 : Int32)), .val (.int (0 : Int32)), .val (.ref a6), .val (.int x10), .unset, .unset, .unset, .unset, .unset, .unset, .unset] [(.ref a11)] Q_law
    refine wp_astore #[.val (.int a), .val (.int b), .val (.int (0 : Int32)), .val (.int x2), .val (.int (0 : Int32)), .val (.int (0 : Int32)), .val (.int (0 : Int32)), .val (.ref a6), .val (.int x10), .val (.ref a11), .unset, .unset, .unset, .unset, .unset, .unset] D_115 rfl rfl ?_
    refine wp_aload D_117 rfl rfl ?_
    refine wp_virtual (c_ap_e l Z a0 hw a11 a6 x10 []) (exa_new (i := 0) rfl) D_119 (hw _ (List.mem_of_getElem? (i := 15) rfl)) (hw _ (List.mem_of_getElem? (i := 16) rfl)) (hw _ (List.mem_of_getElem? (i := 18) rfl)) (hw _ (List.mem_of_getElem? (i := 18) rfl)) (hw _ (List.mem_of_getElem? (i := 17) rfl)) (hw _ (List.mem_of_getElem? (i := 4) rfl)) (hw _ (List.mem_of_getElem? (i := 19) rfl)) (by decide) pd_2 rfl rfl rfl (Nat.le_of_ble_eq_true rfl) (Nat.le_of_ble_eq_true rfl) (Nat.le_of_ble_eq_true rfl) (Nat.le_of_ble_eq_true rfl) ?_
    rintro _ _ ⟨rfl, rfl⟩
    by_cases hR12 : x10 = 0
    · rw [if_pos hR12]
      show Wp none l Z "com/example/keyword_to_concept/keywordtoconcept/evaluation/RankedTopicAveragePrecisionPinLaw" "law" code maxLocals ret room_1 [(a11, oI "com/example/keyword_to_concept/keywordtoconcept/evaluation/RankedTopic" sg_1 [(.ref a6), (.int x10)]), (a6, oA .boolean [])] 2 2 122 #[.val (.int a), .val (.int b), .val (.int (0 : Int32)), .val (.int x2), .val (.int (0 : Int32)), .val (.int (0 : Int32)), .val (.int (0 : Int32)), .val (.ref a6), .val (.int x10), .val (.ref a11), .unset, .unset, .unset, .unset, .unset, .unset] [(.double (0 : UInt64))] Q_law
      refine wp_dstore #[.val (.int a), .val (.int b), .val (.int (0 : Int32)), .val (.int x2), .val (.int (0 : Int32)), .val (.int (0 : Int32)), .val (.int (0 : Int32)), .val (.ref a6), .val (.int x10), .val (.ref a11), .val (.double (0 : UInt64)), .second, .unset, .unset, .unset, .unset] D_122 rfl ?_
      refine wp_iload D_124 rfl ?_
      refine wp_iload D_126 rfl ?_
      refine wp_iload D_128 rfl ?_
      refine wp_callS (c_ps_000 l Z a0 hw [(a11, oI "com/example/keyword_to_concept/keywordtoconcept/evaluation/RankedTopic" sg_1 [(.ref a6), (.int x10)]), (a6, oA .boolean [])]) D_130 (hw _ (List.mem_of_getElem? (i := 20) rfl)) (hw _ (List.mem_of_getElem? (i := 21) rfl)) (hw _ (List.mem_of_getElem? (i := 22) rfl)) (hw _ (List.mem_of_getElem? (i := 23) rfl)) (by decide) pd_3 rfl rfl rfl (Nat.le_of_ble_eq_true rfl) (Nat.le_of_ble_eq_true rfl) (Nat.le_of_ble_eq_true rfl) (Nat.le_of_ble_eq_true rfl) ?_
      rintro _ _ ⟨rfl, rfl⟩
      show Wp none l Z "com/example/keyword_to_concept/keywordtoconcept/evaluation/RankedTopicAveragePrecisionPinLaw" "law" code maxLocals ret room_1 [(a11, oI "com/example/keyword_to_concept/keywordtoconcept/evaluation/RankedTopic" sg_1 [(.ref a6), (.int x10)]), (a6, oA .boolean [])] 2 2 133 #[.val (.int a), .val (.int b), .val (.int (0 : Int32)), .val (.int x2), .val (.int (0 : Int32)), .val (.int (0 : Int32)), .val (.int (0 : Int32)), .val (.ref a6), .val (.int x10), .val (.ref a11), .val (.double (0 : UInt64)), .second, .unset, .unset, .unset, .unset] [(.double (0 : UInt64))] Q_law
      refine wp_dstore #[.val (.int a), .val (.int b), .val (.int (0 : Int32)), .val (.int x2), .val (.int (0 : Int32)), .val (.int (0 : Int32)), .val (.int (0 : Int32)), .val (.ref a6), .val (.int x10), .val (.ref a11), .val (.double (0 : UInt64)), .second, .val (.double (0 : UInt64)), .second, .unset, .unset] D_133 rfl ?_
      refine wp_iload D_135 rfl ?_
      refine wp_if_ne D_137 (pc'' := 144) ⟨by decide, by decide⟩ (fun h13 => by exact absurd hR12 h13) (fun h13 => ?_)
      refine wp_dconst0 0 D_140 (by decide +kernel) ?_
      refine wp_goto D_141 (pc'' := 150) ⟨by decide, by decide⟩ ?_
      refine wp_dstore #[.val (.int a), .val (.int b), .val (.int (0 : Int32)), .val (.int x2), .val (.int (0 : Int32)), .val (.int (0 : Int32)), .val (.int (0 : Int32)), .val (.ref a6), .val (.int x10), .val (.ref a11), .val (.double (0 : UInt64)), .second, .val (.double (0 : UInt64)), .second, .val (.double (0 : UInt64)), .second] D_150 rfl ?_
      refine wp_dload D_152 rfl ?_
      refine wp_dload D_154 rfl ?_
      refine wp_dcmp (0 : Int32) D_156 (by decide +kernel) ?_
      refine wp_if_ne D_157 (pc'' := 164) ⟨by decide, by decide⟩ (fun h14 => by exact absurd h14 (by decide)) (fun h14 => ?_)
      refine wp_iconst 1 D_160 (by decide) ?_
      refine wp_goto D_161 (pc'' := 165) ⟨by decide, by decide⟩ ?_
      refine wp_ireturnN D_165 rfl (by simp) (by decide) (by decide) ?_
      exact rfl
    · rw [if_neg hR12]
      show Wp none l Z "com/example/keyword_to_concept/keywordtoconcept/evaluation/RankedTopicAveragePrecisionPinLaw" "law" code maxLocals ret room_1 [(a11, oI "com/example/keyword_to_concept/keywordtoconcept/evaluation/RankedTopic" sg_1 [(.ref a6), (.int x10)]), (a6, oA .boolean [])] 2 2 122 #[.val (.int a), .val (.int b), .val (.int (0 : Int32)), .val (.int x2), .val (.int (0 : Int32)), .val (.int (0 : Int32)), .val (.int (0 : Int32)), .val (.ref a6), .val (.int x10), .val (.ref a11), .unset, .unset, .unset, .unset, .unset, .unset] [(.double (FP.ddiv (0 : UInt64) (FP.i2d x10)))] Q_law
      refine wp_dstore #[.val (.int a), .val (.int b), .val (.int (0 : Int32)), .val (.int x2), .val (.int (0 : Int32)), .val (.int (0 : Int32)), .val (.int (0 : Int32)), .val (.ref a6), .val (.int x10), .val (.ref a11), .val (.double (FP.ddiv (0 : UInt64) (FP.i2d x10))), .second, .unset, .unset, .unset, .unset] D_122 rfl ?_
      refine wp_iload D_124 rfl ?_
      refine wp_iload D_126 rfl ?_
      refine wp_iload D_128 rfl ?_
      refine wp_callS (c_ps_000 l Z a0 hw [(a11, oI "com/example/keyword_to_concept/keywordtoconcept/evaluation/RankedTopic" sg_1 [(.ref a6), (.int x10)]), (a6, oA .boolean [])]) D_130 (hw _ (List.mem_of_getElem? (i := 20) rfl)) (hw _ (List.mem_of_getElem? (i := 21) rfl)) (hw _ (List.mem_of_getElem? (i := 22) rfl)) (hw _ (List.mem_of_getElem? (i := 23) rfl)) (by decide) pd_3 rfl rfl rfl (Nat.le_of_ble_eq_true rfl) (Nat.le_of_ble_eq_true rfl) (Nat.le_of_ble_eq_true rfl) (Nat.le_of_ble_eq_true rfl) ?_
      rintro _ _ ⟨rfl, rfl⟩
      show Wp none l Z "com/example/keyword_to_concept/keywordtoconcept/evaluation/RankedTopicAveragePrecisionPinLaw" "law" code maxLocals ret room_1 [(a11, oI "com/example/keyword_to_concept/keywordtoconcept/evaluation/RankedTopic" sg_1 [(.ref a6), (.int x10)]), (a6, oA .boolean [])] 2 2 133 #[.val (.int a), .val (.int b), .val (.int (0 : Int32)), .val (.int x2), .val (.int (0 : Int32)), .val (.int (0 : Int32)), .val (.int (0 : Int32)), .val (.ref a6), .val (.int x10), .val (.ref a11), .val (.double (FP.ddiv (0 : UInt64) (FP.i2d x10))), .second, .unset, .unset, .unset, .unset] [(.double (0 : UInt64))] Q_law
      refine wp_dstore #[.val (.int a), .val (.int b), .val (.int (0 : Int32)), .val (.int x2), .val (.int (0 : Int32)), .val (.int (0 : Int32)), .val (.int (0 : Int32)), .val (.ref a6), .val (.int x10), .val (.ref a11), .val (.double (FP.ddiv (0 : UInt64) (FP.i2d x10))), .second, .val (.double (0 : UInt64)), .second, .unset, .unset] D_133 rfl ?_
      refine wp_iload D_135 rfl ?_
      refine wp_if_ne D_137 (pc'' := 144) ⟨by decide, by decide⟩ (fun h15 => ?_) (fun h15 => by exact absurd h15 hR12)
      refine wp_dload D_144 rfl ?_
      refine wp_iload D_146 rfl ?_
      refine wp_i2d (FP.i2d x10) D_148 rfl ?_
      refine wp_ddiv (FP.ddiv (0 : UInt64) (FP.i2d x10)) D_149 (Jvm.Free.Fl.ddiv_out (by unfold Jvm.Free.Fl.NoNaN64; decide +kernel) (Jvm.Free.Fl.i2d_fin _) (Jvm.Free.Fl.i2d_nz hR12)) rfl ?_
      refine wp_dstore #[.val (.int a), .val (.int b), .val (.int (0 : Int32)), .val (.int x2), .val (.int (0 : Int32)), .val (.int (0 : Int32)), .val (.int (0 : Int32)), .val (.ref a6), .val (.int x10), .val (.ref a11), .val (.double (FP.ddiv (0 : UInt64) (FP.i2d x10))), .second, .val (.double (0 : UInt64)), .second, .val (.double (FP.ddiv (0 : UInt64) (FP.i2d x10))), .second] D_150 rfl ?_
      refine wp_dload D_152 rfl ?_
      refine wp_dload D_154 rfl ?_
      refine wp_dcmp (0 : Int32) D_156 (dcmpV_self (Jvm.Free.Fl.ddiv_out (by unfold Jvm.Free.Fl.NoNaN64; decide +kernel) (Jvm.Free.Fl.i2d_fin _) (Jvm.Free.Fl.i2d_nz hR12)) _) ?_
      refine wp_if_ne D_157 (pc'' := 164) ⟨by decide, by decide⟩ (fun h16 => by exact absurd h16 (by decide)) (fun h16 => ?_)
      refine wp_iconst 1 D_160 (by decide) ?_
      refine wp_goto D_161 (pc'' := 165) ⟨by decide, by decide⟩ ?_
      refine wp_ireturnN D_165 rfl (by simp) (by decide) (by decide) ?_
      exact rfl
  · subst hs_x1
    show Wp none l Z "com/example/keyword_to_concept/keywordtoconcept/evaluation/RankedTopicAveragePrecisionPinLaw" "law" code maxLocals ret room_1 [] 0 0 8 #[.val (.int a), .val (.int b), .val (.int (1 : Int32)), .val (.int x2), .unset, .unset, .unset, .unset, .unset, .unset, .unset, .unset, .unset, .unset, .unset, .unset] [] Q_law
    refine wp_iload_n D_8 rfl ?_
    refine wp_if_le D_9 (pc'' := 22) ⟨by decide, by decide⟩ (fun h17 => by exact absurd h17 (by decide)) (fun h17 => ?_)
    refine wp_iload_n D_12 rfl ?_
    refine wp_iconst 1 D_13 (by decide) ?_
    refine wp_iand D_14 ?_
    refine wp_if_eq D_15 (pc'' := 22) ⟨by decide, by decide⟩ (fun h18 => ?_) (fun h18 => ?_)
    · skip
      refine wp_iconst 0 D_22 (by decide) ?_
      refine wp_istore #[.val (.int a), .val (.int b), .val (.int (1 : Int32)), .val (.int x2), .val (.int (0 : Int32)), .unset, .unset, .unset, .unset, .unset, .unset, .unset, .unset, .unset, .unset, .unset] D_23 rfl ?_
      refine wp_iload_n D_25 rfl ?_
      refine wp_iconst 1 D_26 (by decide) ?_
      refine wp_icmp_le D_27 (pc'' := 40) ⟨by decide, by decide⟩ (fun h19 => ?_) (fun h19 => by exact absurd h19 (by decide))
      refine wp_iconst 0 D_40 (by decide) ?_
      refine wp_istore #[.val (.int a), .val (.int b), .val (.int (1 : Int32)), .val (.int x2), .val (.int (0 : Int32)), .val (.int (0 : Int32)), .unset, .unset, .unset, .unset, .unset, .unset, .unset, .unset, .unset, .unset] D_41 rfl ?_
      refine wp_iload_n D_43 rfl ?_
      refine wp_iconst 2 D_44 (by decide) ?_
      refine wp_icmp_le D_45 (pc'' := 58) ⟨by decide, by decide⟩ (fun h20 => ?_) (fun h20 => by exact absurd h20 (by decide))
      refine wp_iconst 0 D_58 (by decide) ?_
      refine wp_istore #[.val (.int a), .val (.int b), .val (.int (1 : Int32)), .val (.int x2), .val (.int (0 : Int32)), .val (.int (0 : Int32)), .val (.int (0 : Int32)), .unset, .unset, .unset, .unset, .unset, .unset, .unset, .unset, .unset] D_59 rfl ?_
      refine wp_iload_n D_61 rfl ?_
      refine wp_newarrayI (n := (1 : Int32)) (1) 1 D_62 rfl rfl rfl (hw _ (List.mem_of_getElem? (i := 0) rfl)) (by decide) (by decide) (by decide) (by decide) (by decide) (by decide) ?_
      intro a21
      show Wp none l Z "com/example/keyword_to_concept/keywordtoconcept/evaluation/RankedTopicAveragePrecisionPinLaw" "law" code maxLocals ret room_1 [(a21, oA .boolean [(0 : Int32)])] 1 1 64 #[.val (.int a), .val (.int b), .val (.int (1 : Int32)), .val (.int x2), .val (.int (0 : Int32)), .val (.int (0 : Int32)), .val (.int (0 : Int32)), .unset, .unset, .unset, .unset, .unset, .unset, .unset, .unset, .unset] [(.ref a21)] Q_law
      refine wp_astore #[.val (.int a), .val (.int b), .val (.int (1 : Int32)), .val (.int x2), .val (.int (0 : Int32)), .val (.int (0 : Int32)), .val (.int (0 : Int32)), .val (.ref a21), .unset, .unset, .unset, .unset, .unset, .unset, .unset, .unset] D_64 rfl rfl ?_
      refine wp_iload_n D_66 rfl ?_
      refine wp_if_le D_67 (pc'' := 76) ⟨by decide, by decide⟩ (fun h22 => by exact absurd h22 (by decide)) (fun h22 => ?_)
      refine wp_aload D_70 rfl rfl ?_
      refine wp_iconst 0 D_72 (by decide) ?_
      refine wp_iload D_73 rfl ?_
      refine wp_zastore (i := 0) (0) D_75 rfl (by decide) (by decide) (by first | decide | exact Nat.le_of_ble_eq_true rfl | simp) ?_
      rw [show (nar .boolean (0 : Int32)) = (0 : Int32) from by decide]
      show Wp none l Z "com/example/keyword_to_concept/keywordtoconcept/evaluation/RankedTopicAveragePrecisionPinLaw" "law" code maxLocals ret room_1 [(a21, oA .boolean [(0 : Int32)])] 1 1 76 #[.val (.int a), .val (.int b), .val (.int (1 : Int32)), .val (.int x2), .val (.int (0 : Int32)), .val (.int (0 : Int32)), .val (.int (0 : Int32)), .val (.ref a21), .unset, .unset, .unset, .unset, .unset, .unset, .unset, .unset] [] Q_law
      refine wp_iload_n D_76 rfl ?_
      refine wp_iconst 1 D_77 (by decide) ?_
      refine wp_icmp_le D_78 (pc'' := 87) ⟨by decide, by decide⟩ (fun h23 => ?_) (fun h23 => by exact absurd h23 (by decide))
      refine wp_iload_n D_87 rfl ?_
      refine wp_iconst 2 D_88 (by decide) ?_
      refine wp_icmp_le D_89 (pc'' := 98) ⟨by decide, by decide⟩ (fun h24 => ?_) (fun h24 => by exact absurd h24 (by decide))
      refine wp_iload_n D_98 rfl ?_
      refine wp_ldcI D_99 (hw _ (List.mem_of_getElem? (i := 1) rfl)) ?_
      refine wp_iand D_101 ?_
      generalize hg_x25 : (b &&& (2147483647 : Int32)) = x25
      refine wp_istore #[.val (.int a), .val (.int b), .val (.int (1 : Int32)), .val (.int x2), .val (.int (0 : Int32)), .val (.int (0 : Int32)), .val (.int (0 : Int32)), .val (.ref a21), .val (.int x25), .unset, .unset, .unset, .unset, .unset, .unset, .unset] D_102 rfl ?_
      refine wp_new sg_1 [(.null), (.int (0 : Int32))] D_104 (hw _ (List.mem_of_getElem? (i := 2) rfl)) (hw _ (List.mem_of_getElem? (i := 3) rfl)) (hw _ (List.mem_of_getElem? (i := 4) rfl)) (laid_sg_1 l Z a0 hw) (by decide) dfl_sg_1 (by decide) (by decide) ?_
      intro a26
      show Wp none l Z "com/example/keyword_to_concept/keywordtoconcept/evaluation/RankedTopicAveragePrecisionPinLaw" "law" code maxLocals ret room_1 [(a26, oI "com/example/keyword_to_concept/keywordtoconcept/evaluation/RankedTopic" sg_1 [(.null), (.int (0 : Int32))]), (a21, oA .boolean [(0 : Int32)])] 2 3 107 #[.val (.int a), .val (.int b), .val (.int (1 : Int32)), .val (.int x2), .val (.int (0 : Int32)), .val (.int (0 : Int32)), .val (.int (0 : Int32)), .val (.ref a21), .val (.int x25), .unset, .unset, .unset, .unset, .unset, .unset, .unset] [(.ref a26)] Q_law
      refine wp_dup D_107 rfl ?_
      refine wp_aload D_108 rfl rfl ?_
      refine wp_iload D_110 rfl ?_
      refine wp_init (c_ini l Z a0 hw a26 a21 x25 [(a21, oA .boolean [(0 : Int32)])]) D_112 rfl (hw _ (List.mem_of_getElem? (i := 5) rfl)) (hw _ (List.mem_of_getElem? (i := 6) rfl)) (hw _ (List.mem_of_getElem? (i := 4) rfl)) (hw _ (List.mem_of_getElem? (i := 7) rfl)) (by decide) pd_1 rfl rfl rfl (Nat.le_of_ble_eq_true rfl) (Nat.le_of_ble_eq_true rfl) (Nat.le_of_ble_eq_true rfl) (Nat.le_of_ble_eq_true rfl) ?_
      rintro _ _ ⟨rfl, rfl⟩
      show Wp none l Z "com/example/keyword_to_concept/keywordtoconcept/evaluation/RankedTopicAveragePrecisionPinLaw" "law" code maxLocals ret room_1 [(a26, oI "com/example/keyword_to_concept/keywordtoconcept/evaluation/RankedTopic" sg_1 [(.ref a21), (.int x25)]), (a21, oA .boolean [(0 : Int32)])] 2 3 115 #[.val (.int a), .val (.int b), .val (.int (1 : Int32)), .val (.int x2), .val (.int (0 : Int32)), .val (.int (0 : Int32)), .val (.int (0 : Int32)), .val (.ref a21), .val (.int x25), .unset, .unset, .unset, .unset, .unset, .unset, .unset] [(.ref a26)] Q_law
      refine wp_astore #[.val (.int a), .val (.int b), .val (.int (1 : Int32)), .val (.int x2), .val (.int (0 : Int32)), .val (.int (0 : Int32)), .val (.int (0 : Int32)), .val (.ref a21), .val (.int x25), .val (.ref a26), .unset, .unset, .unset, .unset, .unset, .unset] D_115 rfl rfl ?_
      refine wp_aload D_117 rfl rfl ?_
      refine wp_virtual (c_ap_0 l Z a0 hw a26 a21 x25 []) (exa_new (i := 0) rfl) D_119 (hw _ (List.mem_of_getElem? (i := 15) rfl)) (hw _ (List.mem_of_getElem? (i := 16) rfl)) (hw _ (List.mem_of_getElem? (i := 18) rfl)) (hw _ (List.mem_of_getElem? (i := 18) rfl)) (hw _ (List.mem_of_getElem? (i := 17) rfl)) (hw _ (List.mem_of_getElem? (i := 4) rfl)) (hw _ (List.mem_of_getElem? (i := 19) rfl)) (by decide) pd_2 rfl rfl rfl (Nat.le_of_ble_eq_true rfl) (Nat.le_of_ble_eq_true rfl) (Nat.le_of_ble_eq_true rfl) (Nat.le_of_ble_eq_true rfl) ?_
      rintro _ _ ⟨rfl, rfl⟩
      by_cases hR27 : x25 = 0
      · rw [if_pos hR27]
        show Wp none l Z "com/example/keyword_to_concept/keywordtoconcept/evaluation/RankedTopicAveragePrecisionPinLaw" "law" code maxLocals ret room_1 [(a26, oI "com/example/keyword_to_concept/keywordtoconcept/evaluation/RankedTopic" sg_1 [(.ref a21), (.int x25)]), (a21, oA .boolean [(0 : Int32)])] 2 3 122 #[.val (.int a), .val (.int b), .val (.int (1 : Int32)), .val (.int x2), .val (.int (0 : Int32)), .val (.int (0 : Int32)), .val (.int (0 : Int32)), .val (.ref a21), .val (.int x25), .val (.ref a26), .unset, .unset, .unset, .unset, .unset, .unset] [(.double (0 : UInt64))] Q_law
        refine wp_dstore #[.val (.int a), .val (.int b), .val (.int (1 : Int32)), .val (.int x2), .val (.int (0 : Int32)), .val (.int (0 : Int32)), .val (.int (0 : Int32)), .val (.ref a21), .val (.int x25), .val (.ref a26), .val (.double (0 : UInt64)), .second, .unset, .unset, .unset, .unset] D_122 rfl ?_
        refine wp_iload D_124 rfl ?_
        refine wp_iload D_126 rfl ?_
        refine wp_iload D_128 rfl ?_
        refine wp_callS (c_ps_000 l Z a0 hw [(a26, oI "com/example/keyword_to_concept/keywordtoconcept/evaluation/RankedTopic" sg_1 [(.ref a21), (.int x25)]), (a21, oA .boolean [(0 : Int32)])]) D_130 (hw _ (List.mem_of_getElem? (i := 20) rfl)) (hw _ (List.mem_of_getElem? (i := 21) rfl)) (hw _ (List.mem_of_getElem? (i := 22) rfl)) (hw _ (List.mem_of_getElem? (i := 23) rfl)) (by decide) pd_3 rfl rfl rfl (Nat.le_of_ble_eq_true rfl) (Nat.le_of_ble_eq_true rfl) (Nat.le_of_ble_eq_true rfl) (Nat.le_of_ble_eq_true rfl) ?_
        rintro _ _ ⟨rfl, rfl⟩
        show Wp none l Z "com/example/keyword_to_concept/keywordtoconcept/evaluation/RankedTopicAveragePrecisionPinLaw" "law" code maxLocals ret room_1 [(a26, oI "com/example/keyword_to_concept/keywordtoconcept/evaluation/RankedTopic" sg_1 [(.ref a21), (.int x25)]), (a21, oA .boolean [(0 : Int32)])] 2 3 133 #[.val (.int a), .val (.int b), .val (.int (1 : Int32)), .val (.int x2), .val (.int (0 : Int32)), .val (.int (0 : Int32)), .val (.int (0 : Int32)), .val (.ref a21), .val (.int x25), .val (.ref a26), .val (.double (0 : UInt64)), .second, .unset, .unset, .unset, .unset] [(.double (0 : UInt64))] Q_law
        refine wp_dstore #[.val (.int a), .val (.int b), .val (.int (1 : Int32)), .val (.int x2), .val (.int (0 : Int32)), .val (.int (0 : Int32)), .val (.int (0 : Int32)), .val (.ref a21), .val (.int x25), .val (.ref a26), .val (.double (0 : UInt64)), .second, .val (.double (0 : UInt64)), .second, .unset, .unset] D_133 rfl ?_
        refine wp_iload D_135 rfl ?_
        refine wp_if_ne D_137 (pc'' := 144) ⟨by decide, by decide⟩ (fun h28 => by exact absurd hR27 h28) (fun h28 => ?_)
        refine wp_dconst0 0 D_140 (by decide +kernel) ?_
        refine wp_goto D_141 (pc'' := 150) ⟨by decide, by decide⟩ ?_
        refine wp_dstore #[.val (.int a), .val (.int b), .val (.int (1 : Int32)), .val (.int x2), .val (.int (0 : Int32)), .val (.int (0 : Int32)), .val (.int (0 : Int32)), .val (.ref a21), .val (.int x25), .val (.ref a26), .val (.double (0 : UInt64)), .second, .val (.double (0 : UInt64)), .second, .val (.double (0 : UInt64)), .second] D_150 rfl ?_
        refine wp_dload D_152 rfl ?_
        refine wp_dload D_154 rfl ?_
        refine wp_dcmp (0 : Int32) D_156 (by decide +kernel) ?_
        refine wp_if_ne D_157 (pc'' := 164) ⟨by decide, by decide⟩ (fun h29 => by exact absurd h29 (by decide)) (fun h29 => ?_)
        refine wp_iconst 1 D_160 (by decide) ?_
        refine wp_goto D_161 (pc'' := 165) ⟨by decide, by decide⟩ ?_
        refine wp_ireturnN D_165 rfl (by simp) (by decide) (by decide) ?_
        exact rfl
      · rw [if_neg hR27]
        show Wp none l Z "com/example/keyword_to_concept/keywordtoconcept/evaluation/RankedTopicAveragePrecisionPinLaw" "law" code maxLocals ret room_1 [(a26, oI "com/example/keyword_to_concept/keywordtoconcept/evaluation/RankedTopic" sg_1 [(.ref a21), (.int x25)]), (a21, oA .boolean [(0 : Int32)])] 2 3 122 #[.val (.int a), .val (.int b), .val (.int (1 : Int32)), .val (.int x2), .val (.int (0 : Int32)), .val (.int (0 : Int32)), .val (.int (0 : Int32)), .val (.ref a21), .val (.int x25), .val (.ref a26), .unset, .unset, .unset, .unset, .unset, .unset] [(.double (FP.ddiv (0 : UInt64) (FP.i2d x25)))] Q_law
        refine wp_dstore #[.val (.int a), .val (.int b), .val (.int (1 : Int32)), .val (.int x2), .val (.int (0 : Int32)), .val (.int (0 : Int32)), .val (.int (0 : Int32)), .val (.ref a21), .val (.int x25), .val (.ref a26), .val (.double (FP.ddiv (0 : UInt64) (FP.i2d x25))), .second, .unset, .unset, .unset, .unset] D_122 rfl ?_
        refine wp_iload D_124 rfl ?_
        refine wp_iload D_126 rfl ?_
        refine wp_iload D_128 rfl ?_
        refine wp_callS (c_ps_000 l Z a0 hw [(a26, oI "com/example/keyword_to_concept/keywordtoconcept/evaluation/RankedTopic" sg_1 [(.ref a21), (.int x25)]), (a21, oA .boolean [(0 : Int32)])]) D_130 (hw _ (List.mem_of_getElem? (i := 20) rfl)) (hw _ (List.mem_of_getElem? (i := 21) rfl)) (hw _ (List.mem_of_getElem? (i := 22) rfl)) (hw _ (List.mem_of_getElem? (i := 23) rfl)) (by decide) pd_3 rfl rfl rfl (Nat.le_of_ble_eq_true rfl) (Nat.le_of_ble_eq_true rfl) (Nat.le_of_ble_eq_true rfl) (Nat.le_of_ble_eq_true rfl) ?_
        rintro _ _ ⟨rfl, rfl⟩
        show Wp none l Z "com/example/keyword_to_concept/keywordtoconcept/evaluation/RankedTopicAveragePrecisionPinLaw" "law" code maxLocals ret room_1 [(a26, oI "com/example/keyword_to_concept/keywordtoconcept/evaluation/RankedTopic" sg_1 [(.ref a21), (.int x25)]), (a21, oA .boolean [(0 : Int32)])] 2 3 133 #[.val (.int a), .val (.int b), .val (.int (1 : Int32)), .val (.int x2), .val (.int (0 : Int32)), .val (.int (0 : Int32)), .val (.int (0 : Int32)), .val (.ref a21), .val (.int x25), .val (.ref a26), .val (.double (FP.ddiv (0 : UInt64) (FP.i2d x25))), .second, .unset, .unset, .unset, .unset] [(.double (0 : UInt64))] Q_law
        refine wp_dstore #[.val (.int a), .val (.int b), .val (.int (1 : Int32)), .val (.int x2), .val (.int (0 : Int32)), .val (.int (0 : Int32)), .val (.int (0 : Int32)), .val (.ref a21), .val (.int x25), .val (.ref a26), .val (.double (FP.ddiv (0 : UInt64) (FP.i2d x25))), .second, .val (.double (0 : UInt64)), .second, .unset, .unset] D_133 rfl ?_
        refine wp_iload D_135 rfl ?_
        refine wp_if_ne D_137 (pc'' := 144) ⟨by decide, by decide⟩ (fun h30 => ?_) (fun h30 => by exact absurd h30 hR27)
        refine wp_dload D_144 rfl ?_
        refine wp_iload D_146 rfl ?_
        refine wp_i2d (FP.i2d x25) D_148 rfl ?_
        refine wp_ddiv (FP.ddiv (0 : UInt64) (FP.i2d x25)) D_149 (Jvm.Free.Fl.ddiv_out (by unfold Jvm.Free.Fl.NoNaN64; decide +kernel) (Jvm.Free.Fl.i2d_fin _) (Jvm.Free.Fl.i2d_nz hR27)) rfl ?_
        refine wp_dstore #[.val (.int a), .val (.int b), .val (.int (1 : Int32)), .val (.int x2), .val (.int (0 : Int32)), .val (.int (0 : Int32)), .val (.int (0 : Int32)), .val (.ref a21), .val (.int x25), .val (.ref a26), .val (.double (FP.ddiv (0 : UInt64) (FP.i2d x25))), .second, .val (.double (0 : UInt64)), .second, .val (.double (FP.ddiv (0 : UInt64) (FP.i2d x25))), .second] D_150 rfl ?_
        refine wp_dload D_152 rfl ?_
        refine wp_dload D_154 rfl ?_
        refine wp_dcmp (0 : Int32) D_156 (dcmpV_self (Jvm.Free.Fl.ddiv_out (by unfold Jvm.Free.Fl.NoNaN64; decide +kernel) (Jvm.Free.Fl.i2d_fin _) (Jvm.Free.Fl.i2d_nz hR27)) _) ?_
        refine wp_if_ne D_157 (pc'' := 164) ⟨by decide, by decide⟩ (fun h31 => by exact absurd h31 (by decide)) (fun h31 => ?_)
        refine wp_iconst 1 D_160 (by decide) ?_
        refine wp_goto D_161 (pc'' := 165) ⟨by decide, by decide⟩ ?_
        refine wp_ireturnN D_165 rfl (by simp) (by decide) (by decide) ?_
        exact rfl
    · skip
      refine wp_iconst 1 D_18 (by decide) ?_
      refine wp_goto D_19 (pc'' := 23) ⟨by decide, by decide⟩ ?_
      refine wp_istore #[.val (.int a), .val (.int b), .val (.int (1 : Int32)), .val (.int x2), .val (.int (1 : Int32)), .unset, .unset, .unset, .unset, .unset, .unset, .unset, .unset, .unset, .unset, .unset] D_23 rfl ?_
      refine wp_iload_n D_25 rfl ?_
      refine wp_iconst 1 D_26 (by decide) ?_
      refine wp_icmp_le D_27 (pc'' := 40) ⟨by decide, by decide⟩ (fun h32 => ?_) (fun h32 => by exact absurd h32 (by decide))
      refine wp_iconst 0 D_40 (by decide) ?_
      refine wp_istore #[.val (.int a), .val (.int b), .val (.int (1 : Int32)), .val (.int x2), .val (.int (1 : Int32)), .val (.int (0 : Int32)), .unset, .unset, .unset, .unset, .unset, .unset, .unset, .unset, .unset, .unset] D_41 rfl ?_
      refine wp_iload_n D_43 rfl ?_
      refine wp_iconst 2 D_44 (by decide) ?_
      refine wp_icmp_le D_45 (pc'' := 58) ⟨by decide, by decide⟩ (fun h33 => ?_) (fun h33 => by exact absurd h33 (by decide))
      refine wp_iconst 0 D_58 (by decide) ?_
      refine wp_istore #[.val (.int a), .val (.int b), .val (.int (1 : Int32)), .val (.int x2), .val (.int (1 : Int32)), .val (.int (0 : Int32)), .val (.int (0 : Int32)), .unset, .unset, .unset, .unset, .unset, .unset, .unset, .unset, .unset] D_59 rfl ?_
      refine wp_iload_n D_61 rfl ?_
      refine wp_newarrayI (n := (1 : Int32)) (1) 1 D_62 rfl rfl rfl (hw _ (List.mem_of_getElem? (i := 0) rfl)) (by decide) (by decide) (by decide) (by decide) (by decide) (by decide) ?_
      intro a34
      show Wp none l Z "com/example/keyword_to_concept/keywordtoconcept/evaluation/RankedTopicAveragePrecisionPinLaw" "law" code maxLocals ret room_1 [(a34, oA .boolean [(0 : Int32)])] 1 1 64 #[.val (.int a), .val (.int b), .val (.int (1 : Int32)), .val (.int x2), .val (.int (1 : Int32)), .val (.int (0 : Int32)), .val (.int (0 : Int32)), .unset, .unset, .unset, .unset, .unset, .unset, .unset, .unset, .unset] [(.ref a34)] Q_law
      refine wp_astore #[.val (.int a), .val (.int b), .val (.int (1 : Int32)), .val (.int x2), .val (.int (1 : Int32)), .val (.int (0 : Int32)), .val (.int (0 : Int32)), .val (.ref a34), .unset, .unset, .unset, .unset, .unset, .unset, .unset, .unset] D_64 rfl rfl ?_
      refine wp_iload_n D_66 rfl ?_
      refine wp_if_le D_67 (pc'' := 76) ⟨by decide, by decide⟩ (fun h35 => by exact absurd h35 (by decide)) (fun h35 => ?_)
      refine wp_aload D_70 rfl rfl ?_
      refine wp_iconst 0 D_72 (by decide) ?_
      refine wp_iload D_73 rfl ?_
      refine wp_zastore (i := 0) (0) D_75 rfl (by decide) (by decide) (by first | decide | exact Nat.le_of_ble_eq_true rfl | simp) ?_
      rw [show (nar .boolean (1 : Int32)) = (1 : Int32) from by decide]
      show Wp none l Z "com/example/keyword_to_concept/keywordtoconcept/evaluation/RankedTopicAveragePrecisionPinLaw" "law" code maxLocals ret room_1 [(a34, oA .boolean [(1 : Int32)])] 1 1 76 #[.val (.int a), .val (.int b), .val (.int (1 : Int32)), .val (.int x2), .val (.int (1 : Int32)), .val (.int (0 : Int32)), .val (.int (0 : Int32)), .val (.ref a34), .unset, .unset, .unset, .unset, .unset, .unset, .unset, .unset] [] Q_law
      refine wp_iload_n D_76 rfl ?_
      refine wp_iconst 1 D_77 (by decide) ?_
      refine wp_icmp_le D_78 (pc'' := 87) ⟨by decide, by decide⟩ (fun h36 => ?_) (fun h36 => by exact absurd h36 (by decide))
      refine wp_iload_n D_87 rfl ?_
      refine wp_iconst 2 D_88 (by decide) ?_
      refine wp_icmp_le D_89 (pc'' := 98) ⟨by decide, by decide⟩ (fun h37 => ?_) (fun h37 => by exact absurd h37 (by decide))
      refine wp_iload_n D_98 rfl ?_
      refine wp_ldcI D_99 (hw _ (List.mem_of_getElem? (i := 1) rfl)) ?_
      refine wp_iand D_101 ?_
      generalize hg_x38 : (b &&& (2147483647 : Int32)) = x38
      refine wp_istore #[.val (.int a), .val (.int b), .val (.int (1 : Int32)), .val (.int x2), .val (.int (1 : Int32)), .val (.int (0 : Int32)), .val (.int (0 : Int32)), .val (.ref a34), .val (.int x38), .unset, .unset, .unset, .unset, .unset, .unset, .unset] D_102 rfl ?_
      refine wp_new sg_1 [(.null), (.int (0 : Int32))] D_104 (hw _ (List.mem_of_getElem? (i := 2) rfl)) (hw _ (List.mem_of_getElem? (i := 3) rfl)) (hw _ (List.mem_of_getElem? (i := 4) rfl)) (laid_sg_1 l Z a0 hw) (by decide) dfl_sg_1 (by decide) (by decide) ?_
      intro a39
      show Wp none l Z "com/example/keyword_to_concept/keywordtoconcept/evaluation/RankedTopicAveragePrecisionPinLaw" "law" code maxLocals ret room_1 [(a39, oI "com/example/keyword_to_concept/keywordtoconcept/evaluation/RankedTopic" sg_1 [(.null), (.int (0 : Int32))]), (a34, oA .boolean [(1 : Int32)])] 2 3 107 #[.val (.int a), .val (.int b), .val (.int (1 : Int32)), .val (.int x2), .val (.int (1 : Int32)), .val (.int (0 : Int32)), .val (.int (0 : Int32)), .val (.ref a34), .val (.int x38), .unset, .unset, .unset, .unset, .unset, .unset, .unset] [(.ref a39)] Q_law
      refine wp_dup D_107 rfl ?_
      refine wp_aload D_108 rfl rfl ?_
      refine wp_iload D_110 rfl ?_
      refine wp_init (c_ini l Z a0 hw a39 a34 x38 [(a34, oA .boolean [(1 : Int32)])]) D_112 rfl (hw _ (List.mem_of_getElem? (i := 5) rfl)) (hw _ (List.mem_of_getElem? (i := 6) rfl)) (hw _ (List.mem_of_getElem? (i := 4) rfl)) (hw _ (List.mem_of_getElem? (i := 7) rfl)) (by decide) pd_1 rfl rfl rfl (Nat.le_of_ble_eq_true rfl) (Nat.le_of_ble_eq_true rfl) (Nat.le_of_ble_eq_true rfl) (Nat.le_of_ble_eq_true rfl) ?_
      rintro _ _ ⟨rfl, rfl⟩
      show Wp none l Z "com/example/keyword_to_concept/keywordtoconcept/evaluation/RankedTopicAveragePrecisionPinLaw" "law" code maxLocals ret room_1 [(a39, oI "com/example/keyword_to_concept/keywordtoconcept/evaluation/RankedTopic" sg_1 [(.ref a34), (.int x38)]), (a34, oA .boolean [(1 : Int32)])] 2 3 115 #[.val (.int a), .val (.int b), .val (.int (1 : Int32)), .val (.int x2), .val (.int (1 : Int32)), .val (.int (0 : Int32)), .val (.int (0 : Int32)), .val (.ref a34), .val (.int x38), .unset, .unset, .unset, .unset, .unset, .unset, .unset] [(.ref a39)] Q_law
      refine wp_astore #[.val (.int a), .val (.int b), .val (.int (1 : Int32)), .val (.int x2), .val (.int (1 : Int32)), .val (.int (0 : Int32)), .val (.int (0 : Int32)), .val (.ref a34), .val (.int x38), .val (.ref a39), .unset, .unset, .unset, .unset, .unset, .unset] D_115 rfl rfl ?_
      refine wp_aload D_117 rfl rfl ?_
      refine wp_virtual (c_ap_1 l Z a0 hw a39 a34 x38 []) (exa_new (i := 0) rfl) D_119 (hw _ (List.mem_of_getElem? (i := 15) rfl)) (hw _ (List.mem_of_getElem? (i := 16) rfl)) (hw _ (List.mem_of_getElem? (i := 18) rfl)) (hw _ (List.mem_of_getElem? (i := 18) rfl)) (hw _ (List.mem_of_getElem? (i := 17) rfl)) (hw _ (List.mem_of_getElem? (i := 4) rfl)) (hw _ (List.mem_of_getElem? (i := 19) rfl)) (by decide) pd_2 rfl rfl rfl (Nat.le_of_ble_eq_true rfl) (Nat.le_of_ble_eq_true rfl) (Nat.le_of_ble_eq_true rfl) (Nat.le_of_ble_eq_true rfl) ?_
      rintro _ _ ⟨rfl, rfl⟩
      by_cases hR40 : x38 = 0
      · rw [if_pos hR40]
        show Wp none l Z "com/example/keyword_to_concept/keywordtoconcept/evaluation/RankedTopicAveragePrecisionPinLaw" "law" code maxLocals ret room_1 [(a39, oI "com/example/keyword_to_concept/keywordtoconcept/evaluation/RankedTopic" sg_1 [(.ref a34), (.int x38)]), (a34, oA .boolean [(1 : Int32)])] 2 3 122 #[.val (.int a), .val (.int b), .val (.int (1 : Int32)), .val (.int x2), .val (.int (1 : Int32)), .val (.int (0 : Int32)), .val (.int (0 : Int32)), .val (.ref a34), .val (.int x38), .val (.ref a39), .unset, .unset, .unset, .unset, .unset, .unset] [(.double (0 : UInt64))] Q_law
        refine wp_dstore #[.val (.int a), .val (.int b), .val (.int (1 : Int32)), .val (.int x2), .val (.int (1 : Int32)), .val (.int (0 : Int32)), .val (.int (0 : Int32)), .val (.ref a34), .val (.int x38), .val (.ref a39), .val (.double (0 : UInt64)), .second, .unset, .unset, .unset, .unset] D_122 rfl ?_
        refine wp_iload D_124 rfl ?_
        refine wp_iload D_126 rfl ?_
        refine wp_iload D_128 rfl ?_
        refine wp_callS (c_ps_100 l Z a0 hw [(a39, oI "com/example/keyword_to_concept/keywordtoconcept/evaluation/RankedTopic" sg_1 [(.ref a34), (.int x38)]), (a34, oA .boolean [(1 : Int32)])]) D_130 (hw _ (List.mem_of_getElem? (i := 20) rfl)) (hw _ (List.mem_of_getElem? (i := 21) rfl)) (hw _ (List.mem_of_getElem? (i := 22) rfl)) (hw _ (List.mem_of_getElem? (i := 23) rfl)) (by decide) pd_3 rfl rfl rfl (Nat.le_of_ble_eq_true rfl) (Nat.le_of_ble_eq_true rfl) (Nat.le_of_ble_eq_true rfl) (Nat.le_of_ble_eq_true rfl) ?_
        rintro _ _ ⟨rfl, rfl⟩
        show Wp none l Z "com/example/keyword_to_concept/keywordtoconcept/evaluation/RankedTopicAveragePrecisionPinLaw" "law" code maxLocals ret room_1 [(a39, oI "com/example/keyword_to_concept/keywordtoconcept/evaluation/RankedTopic" sg_1 [(.ref a34), (.int x38)]), (a34, oA .boolean [(1 : Int32)])] 2 3 133 #[.val (.int a), .val (.int b), .val (.int (1 : Int32)), .val (.int x2), .val (.int (1 : Int32)), .val (.int (0 : Int32)), .val (.int (0 : Int32)), .val (.ref a34), .val (.int x38), .val (.ref a39), .val (.double (0 : UInt64)), .second, .unset, .unset, .unset, .unset] [(.double (4607182418800017408 : UInt64))] Q_law
        refine wp_dstore #[.val (.int a), .val (.int b), .val (.int (1 : Int32)), .val (.int x2), .val (.int (1 : Int32)), .val (.int (0 : Int32)), .val (.int (0 : Int32)), .val (.ref a34), .val (.int x38), .val (.ref a39), .val (.double (0 : UInt64)), .second, .val (.double (4607182418800017408 : UInt64)), .second, .unset, .unset] D_133 rfl ?_
        refine wp_iload D_135 rfl ?_
        refine wp_if_ne D_137 (pc'' := 144) ⟨by decide, by decide⟩ (fun h41 => by exact absurd hR40 h41) (fun h41 => ?_)
        refine wp_dconst0 0 D_140 (by decide +kernel) ?_
        refine wp_goto D_141 (pc'' := 150) ⟨by decide, by decide⟩ ?_
        refine wp_dstore #[.val (.int a), .val (.int b), .val (.int (1 : Int32)), .val (.int x2), .val (.int (1 : Int32)), .val (.int (0 : Int32)), .val (.int (0 : Int32)), .val (.ref a34), .val (.int x38), .val (.ref a39), .val (.double (0 : UInt64)), .second, .val (.double (4607182418800017408 : UInt64)), .second, .val (.double (0 : UInt64)), .second] D_150 rfl ?_
        refine wp_dload D_152 rfl ?_
        refine wp_dload D_154 rfl ?_
        refine wp_dcmp (0 : Int32) D_156 (by decide +kernel) ?_
        refine wp_if_ne D_157 (pc'' := 164) ⟨by decide, by decide⟩ (fun h42 => by exact absurd h42 (by decide)) (fun h42 => ?_)
        refine wp_iconst 1 D_160 (by decide) ?_
        refine wp_goto D_161 (pc'' := 165) ⟨by decide, by decide⟩ ?_
        refine wp_ireturnN D_165 rfl (by simp) (by decide) (by decide) ?_
        exact rfl
      · rw [if_neg hR40]
        show Wp none l Z "com/example/keyword_to_concept/keywordtoconcept/evaluation/RankedTopicAveragePrecisionPinLaw" "law" code maxLocals ret room_1 [(a39, oI "com/example/keyword_to_concept/keywordtoconcept/evaluation/RankedTopic" sg_1 [(.ref a34), (.int x38)]), (a34, oA .boolean [(1 : Int32)])] 2 3 122 #[.val (.int a), .val (.int b), .val (.int (1 : Int32)), .val (.int x2), .val (.int (1 : Int32)), .val (.int (0 : Int32)), .val (.int (0 : Int32)), .val (.ref a34), .val (.int x38), .val (.ref a39), .unset, .unset, .unset, .unset, .unset, .unset] [(.double (FP.ddiv (4607182418800017408 : UInt64) (FP.i2d x38)))] Q_law
        refine wp_dstore #[.val (.int a), .val (.int b), .val (.int (1 : Int32)), .val (.int x2), .val (.int (1 : Int32)), .val (.int (0 : Int32)), .val (.int (0 : Int32)), .val (.ref a34), .val (.int x38), .val (.ref a39), .val (.double (FP.ddiv (4607182418800017408 : UInt64) (FP.i2d x38))), .second, .unset, .unset, .unset, .unset] D_122 rfl ?_
        refine wp_iload D_124 rfl ?_
        refine wp_iload D_126 rfl ?_
        refine wp_iload D_128 rfl ?_
        refine wp_callS (c_ps_100 l Z a0 hw [(a39, oI "com/example/keyword_to_concept/keywordtoconcept/evaluation/RankedTopic" sg_1 [(.ref a34), (.int x38)]), (a34, oA .boolean [(1 : Int32)])]) D_130 (hw _ (List.mem_of_getElem? (i := 20) rfl)) (hw _ (List.mem_of_getElem? (i := 21) rfl)) (hw _ (List.mem_of_getElem? (i := 22) rfl)) (hw _ (List.mem_of_getElem? (i := 23) rfl)) (by decide) pd_3 rfl rfl rfl (Nat.le_of_ble_eq_true rfl) (Nat.le_of_ble_eq_true rfl) (Nat.le_of_ble_eq_true rfl) (Nat.le_of_ble_eq_true rfl) ?_
        rintro _ _ ⟨rfl, rfl⟩
        show Wp none l Z "com/example/keyword_to_concept/keywordtoconcept/evaluation/RankedTopicAveragePrecisionPinLaw" "law" code maxLocals ret room_1 [(a39, oI "com/example/keyword_to_concept/keywordtoconcept/evaluation/RankedTopic" sg_1 [(.ref a34), (.int x38)]), (a34, oA .boolean [(1 : Int32)])] 2 3 133 #[.val (.int a), .val (.int b), .val (.int (1 : Int32)), .val (.int x2), .val (.int (1 : Int32)), .val (.int (0 : Int32)), .val (.int (0 : Int32)), .val (.ref a34), .val (.int x38), .val (.ref a39), .val (.double (FP.ddiv (4607182418800017408 : UInt64) (FP.i2d x38))), .second, .unset, .unset, .unset, .unset] [(.double (4607182418800017408 : UInt64))] Q_law
        refine wp_dstore #[.val (.int a), .val (.int b), .val (.int (1 : Int32)), .val (.int x2), .val (.int (1 : Int32)), .val (.int (0 : Int32)), .val (.int (0 : Int32)), .val (.ref a34), .val (.int x38), .val (.ref a39), .val (.double (FP.ddiv (4607182418800017408 : UInt64) (FP.i2d x38))), .second, .val (.double (4607182418800017408 : UInt64)), .second, .unset, .unset] D_133 rfl ?_
        refine wp_iload D_135 rfl ?_
        refine wp_if_ne D_137 (pc'' := 144) ⟨by decide, by decide⟩ (fun h43 => ?_) (fun h43 => by exact absurd h43 hR40)
        refine wp_dload D_144 rfl ?_
        refine wp_iload D_146 rfl ?_
        refine wp_i2d (FP.i2d x38) D_148 rfl ?_
        refine wp_ddiv (FP.ddiv (4607182418800017408 : UInt64) (FP.i2d x38)) D_149 (Jvm.Free.Fl.ddiv_out (by unfold Jvm.Free.Fl.NoNaN64; decide +kernel) (Jvm.Free.Fl.i2d_fin _) (Jvm.Free.Fl.i2d_nz hR40)) rfl ?_
        refine wp_dstore #[.val (.int a), .val (.int b), .val (.int (1 : Int32)), .val (.int x2), .val (.int (1 : Int32)), .val (.int (0 : Int32)), .val (.int (0 : Int32)), .val (.ref a34), .val (.int x38), .val (.ref a39), .val (.double (FP.ddiv (4607182418800017408 : UInt64) (FP.i2d x38))), .second, .val (.double (4607182418800017408 : UInt64)), .second, .val (.double (FP.ddiv (4607182418800017408 : UInt64) (FP.i2d x38))), .second] D_150 rfl ?_
        refine wp_dload D_152 rfl ?_
        refine wp_dload D_154 rfl ?_
        refine wp_dcmp (0 : Int32) D_156 (dcmpV_self (Jvm.Free.Fl.ddiv_out (by unfold Jvm.Free.Fl.NoNaN64; decide +kernel) (Jvm.Free.Fl.i2d_fin _) (Jvm.Free.Fl.i2d_nz hR40)) _) ?_
        refine wp_if_ne D_157 (pc'' := 164) ⟨by decide, by decide⟩ (fun h44 => by exact absurd h44 (by decide)) (fun h44 => ?_)
        refine wp_iconst 1 D_160 (by decide) ?_
        refine wp_goto D_161 (pc'' := 165) ⟨by decide, by decide⟩ ?_
        refine wp_ireturnN D_165 rfl (by simp) (by decide) (by decide) ?_
        exact rfl
  · subst hs_x1
    show Wp none l Z "com/example/keyword_to_concept/keywordtoconcept/evaluation/RankedTopicAveragePrecisionPinLaw" "law" code maxLocals ret room_1 [] 0 0 8 #[.val (.int a), .val (.int b), .val (.int (2 : Int32)), .val (.int x2), .unset, .unset, .unset, .unset, .unset, .unset, .unset, .unset, .unset, .unset, .unset, .unset] [] Q_law
    refine wp_iload_n D_8 rfl ?_
    refine wp_if_le D_9 (pc'' := 22) ⟨by decide, by decide⟩ (fun h45 => by exact absurd h45 (by decide)) (fun h45 => ?_)
    refine wp_iload_n D_12 rfl ?_
    refine wp_iconst 1 D_13 (by decide) ?_
    refine wp_iand D_14 ?_
    refine wp_if_eq D_15 (pc'' := 22) ⟨by decide, by decide⟩ (fun h46 => ?_) (fun h46 => ?_)
    · skip
      refine wp_iconst 0 D_22 (by decide) ?_
      refine wp_istore #[.val (.int a), .val (.int b), .val (.int (2 : Int32)), .val (.int x2), .val (.int (0 : Int32)), .unset, .unset, .unset, .unset, .unset, .unset, .unset, .unset, .unset, .unset, .unset] D_23 rfl ?_
      refine wp_iload_n D_25 rfl ?_
      refine wp_iconst 1 D_26 (by decide) ?_
      refine wp_icmp_le D_27 (pc'' := 40) ⟨by decide, by decide⟩ (fun h47 => by exact absurd h47 (by decide)) (fun h47 => ?_)
      refine wp_iload_n D_30 rfl ?_
      refine wp_iconst 2 D_31 (by decide) ?_
      refine wp_iand D_32 ?_
      refine wp_if_eq D_33 (pc'' := 40) ⟨by decide, by decide⟩ (fun h48 => ?_) (fun h48 => ?_)
      · skip
        refine wp_iconst 0 D_40 (by decide) ?_
        refine wp_istore #[.val (.int a), .val (.int b), .val (.int (2 : Int32)), .val (.int x2), .val (.int (0 : Int32)), .val (.int (0 : Int32)), .unset, .unset, .unset, .unset, .unset, .unset, .unset, .unset, .unset, .unset] D_41 rfl ?_
        refine wp_iload_n D_43 rfl ?_
        refine wp_iconst 2 D_44 (by decide) ?_
        refine wp_icmp_le D_45 (pc'' := 58) ⟨by decide, by decide⟩ (fun h49 => ?_) (fun h49 => by exact absurd h49 (by decide))
        refine wp_iconst 0 D_58 (by decide) ?_
        refine wp_istore #[.val (.int a), .val (.int b), .val (.int (2 : Int32)), .val (.int x2), .val (.int (0 : Int32)), .val (.int (0 : Int32)), .val (.int (0 : Int32)), .unset, .unset, .unset, .unset, .unset, .unset, .unset, .unset, .unset] D_59 rfl ?_
        refine wp_iload_n D_61 rfl ?_
        refine wp_newarrayI (n := (2 : Int32)) (2) 2 D_62 rfl rfl rfl (hw _ (List.mem_of_getElem? (i := 0) rfl)) (by decide) (by decide) (by decide) (by decide) (by decide) (by decide) ?_
        intro a50
        show Wp none l Z "com/example/keyword_to_concept/keywordtoconcept/evaluation/RankedTopicAveragePrecisionPinLaw" "law" code maxLocals ret room_1 [(a50, oA .boolean [(0 : Int32), (0 : Int32)])] 1 2 64 #[.val (.int a), .val (.int b), .val (.int (2 : Int32)), .val (.int x2), .val (.int (0 : Int32)), .val (.int (0 : Int32)), .val (.int (0 : Int32)), .unset, .unset, .unset, .unset, .unset, .unset, .unset, .unset, .unset] [(.ref a50)] Q_law
        refine wp_astore #[.val (.int a), .val (.int b), .val (.int (2 : Int32)), .val (.int x2), .val (.int (0 : Int32)), .val (.int (0 : Int32)), .val (.int (0 : Int32)), .val (.ref a50), .unset, .unset, .unset, .unset, .unset, .unset, .unset, .unset] D_64 rfl rfl ?_
        refine wp_iload_n D_66 rfl ?_
        refine wp_if_le D_67 (pc'' := 76) ⟨by decide, by decide⟩ (fun h51 => by exact absurd h51 (by decide)) (fun h51 => ?_)
        refine wp_aload D_70 rfl rfl ?_
        refine wp_iconst 0 D_72 (by decide) ?_
        refine wp_iload D_73 rfl ?_
        refine wp_zastore (i := 0) (0) D_75 rfl (by decide) (by decide) (by first | decide | exact Nat.le_of_ble_eq_true rfl | simp) ?_
        rw [show (nar .boolean (0 : Int32)) = (0 : Int32) from by decide]
        show Wp none l Z "com/example/keyword_to_concept/keywordtoconcept/evaluation/RankedTopicAveragePrecisionPinLaw" "law" code maxLocals ret room_1 [(a50, oA .boolean [(0 : Int32), (0 : Int32)])] 1 2 76 #[.val (.int a), .val (.int b), .val (.int (2 : Int32)), .val (.int x2), .val (.int (0 : Int32)), .val (.int (0 : Int32)), .val (.int (0 : Int32)), .val (.ref a50), .unset, .unset, .unset, .unset, .unset, .unset, .unset, .unset] [] Q_law
        refine wp_iload_n D_76 rfl ?_
        refine wp_iconst 1 D_77 (by decide) ?_
        refine wp_icmp_le D_78 (pc'' := 87) ⟨by decide, by decide⟩ (fun h52 => by exact absurd h52 (by decide)) (fun h52 => ?_)
        refine wp_aload D_81 rfl rfl ?_
        refine wp_iconst 1 D_83 (by decide) ?_
        refine wp_iload D_84 rfl ?_
        refine wp_zastore (i := 0) (1) D_86 rfl (by decide) (by decide) (by first | decide | exact Nat.le_of_ble_eq_true rfl | simp) ?_
        rw [show (nar .boolean (0 : Int32)) = (0 : Int32) from by decide]
        show Wp none l Z "com/example/keyword_to_concept/keywordtoconcept/evaluation/RankedTopicAveragePrecisionPinLaw" "law" code maxLocals ret room_1 [(a50, oA .boolean [(0 : Int32), (0 : Int32)])] 1 2 87 #[.val (.int a), .val (.int b), .val (.int (2 : Int32)), .val (.int x2), .val (.int (0 : Int32)), .val (.int (0 : Int32)), .val (.int (0 : Int32)), .val (.ref a50), .unset, .unset, .unset, .unset, .unset, .unset, .unset, .unset] [] Q_law
        refine wp_iload_n D_87 rfl ?_
        refine wp_iconst 2 D_88 (by decide) ?_
        refine wp_icmp_le D_89 (pc'' := 98) ⟨by decide, by decide⟩ (fun h53 => ?_) (fun h53 => by exact absurd h53 (by decide))
        refine wp_iload_n D_98 rfl ?_
        refine wp_ldcI D_99 (hw _ (List.mem_of_getElem? (i := 1) rfl)) ?_
        refine wp_iand D_101 ?_
        generalize hg_x54 : (b &&& (2147483647 : Int32)) = x54
        refine wp_istore #[.val (.int a), .val (.int b), .val (.int (2 : Int32)), .val (.int x2), .val (.int (0 : Int32)), .val (.int (0 : Int32)), .val (.int (0 : Int32)), .val (.ref a50), .val (.int x54), .unset, .unset, .unset, .unset, .unset, .unset, .unset] D_102 rfl ?_
        refine wp_new sg_1 [(.null), (.int (0 : Int32))] D_104 (hw _ (List.mem_of_getElem? (i := 2) rfl)) (hw _ (List.mem_of_getElem? (i := 3) rfl)) (hw _ (List.mem_of_getElem? (i := 4) rfl)) (laid_sg_1 l Z a0 hw) (by decide) dfl_sg_1 (by decide) (by decide) ?_
        intro a55
        show Wp none l Z "com/example/keyword_to_concept/keywordtoconcept/evaluation/RankedTopicAveragePrecisionPinLaw" "law" code maxLocals ret room_1 [(a55, oI "com/example/keyword_to_concept/keywordtoconcept/evaluation/RankedTopic" sg_1 [(.null), (.int (0 : Int32))]), (a50, oA .boolean [(0 : Int32), (0 : Int32)])] 2 4 107 #[.val (.int a), .val (.int b), .val (.int (2 : Int32)), .val (.int x2), .val (.int (0 : Int32)), .val (.int (0 : Int32)), .val (.int (0 : Int32)), .val (.ref a50), .val (.int x54), .unset, .unset, .unset, .unset, .unset, .unset, .unset] [(.ref a55)] Q_law
        refine wp_dup D_107 rfl ?_
        refine wp_aload D_108 rfl rfl ?_
        refine wp_iload D_110 rfl ?_
        refine wp_init (c_ini l Z a0 hw a55 a50 x54 [(a50, oA .boolean [(0 : Int32), (0 : Int32)])]) D_112 rfl (hw _ (List.mem_of_getElem? (i := 5) rfl)) (hw _ (List.mem_of_getElem? (i := 6) rfl)) (hw _ (List.mem_of_getElem? (i := 4) rfl)) (hw _ (List.mem_of_getElem? (i := 7) rfl)) (by decide) pd_1 rfl rfl rfl (Nat.le_of_ble_eq_true rfl) (Nat.le_of_ble_eq_true rfl) (Nat.le_of_ble_eq_true rfl) (Nat.le_of_ble_eq_true rfl) ?_
        rintro _ _ ⟨rfl, rfl⟩
        show Wp none l Z "com/example/keyword_to_concept/keywordtoconcept/evaluation/RankedTopicAveragePrecisionPinLaw" "law" code maxLocals ret room_1 [(a55, oI "com/example/keyword_to_concept/keywordtoconcept/evaluation/RankedTopic" sg_1 [(.ref a50), (.int x54)]), (a50, oA .boolean [(0 : Int32), (0 : Int32)])] 2 4 115 #[.val (.int a), .val (.int b), .val (.int (2 : Int32)), .val (.int x2), .val (.int (0 : Int32)), .val (.int (0 : Int32)), .val (.int (0 : Int32)), .val (.ref a50), .val (.int x54), .unset, .unset, .unset, .unset, .unset, .unset, .unset] [(.ref a55)] Q_law
        refine wp_astore #[.val (.int a), .val (.int b), .val (.int (2 : Int32)), .val (.int x2), .val (.int (0 : Int32)), .val (.int (0 : Int32)), .val (.int (0 : Int32)), .val (.ref a50), .val (.int x54), .val (.ref a55), .unset, .unset, .unset, .unset, .unset, .unset] D_115 rfl rfl ?_
        refine wp_aload D_117 rfl rfl ?_
        refine wp_virtual (c_ap_00 l Z a0 hw a55 a50 x54 []) (exa_new (i := 0) rfl) D_119 (hw _ (List.mem_of_getElem? (i := 15) rfl)) (hw _ (List.mem_of_getElem? (i := 16) rfl)) (hw _ (List.mem_of_getElem? (i := 18) rfl)) (hw _ (List.mem_of_getElem? (i := 18) rfl)) (hw _ (List.mem_of_getElem? (i := 17) rfl)) (hw _ (List.mem_of_getElem? (i := 4) rfl)) (hw _ (List.mem_of_getElem? (i := 19) rfl)) (by decide) pd_2 rfl rfl rfl (Nat.le_of_ble_eq_true rfl) (Nat.le_of_ble_eq_true rfl) (Nat.le_of_ble_eq_true rfl) (Nat.le_of_ble_eq_true rfl) ?_
        rintro _ _ ⟨rfl, rfl⟩
        by_cases hR56 : x54 = 0
        · rw [if_pos hR56]
          show Wp none l Z "com/example/keyword_to_concept/keywordtoconcept/evaluation/RankedTopicAveragePrecisionPinLaw" "law" code maxLocals ret room_1 [(a55, oI "com/example/keyword_to_concept/keywordtoconcept/evaluation/RankedTopic" sg_1 [(.ref a50), (.int x54)]), (a50, oA .boolean [(0 : Int32), (0 : Int32)])] 2 4 122 #[.val (.int a), .val (.int b), .val (.int (2 : Int32)), .val (.int x2), .val (.int (0 : Int32)), .val (.int (0 : Int32)), .val (.int (0 : Int32)), .val (.ref a50), .val (.int x54), .val (.ref a55), .unset, .unset, .unset, .unset, .unset, .unset] [(.double (0 : UInt64))] Q_law
          refine wp_dstore #[.val (.int a), .val (.int b), .val (.int (2 : Int32)), .val (.int x2), .val (.int (0 : Int32)), .val (.int (0 : Int32)), .val (.int (0 : Int32)), .val (.ref a50), .val (.int x54), .val (.ref a55), .val (.double (0 : UInt64)), .second, .unset, .unset, .unset, .unset] D_122 rfl ?_
          refine wp_iload D_124 rfl ?_
          refine wp_iload D_126 rfl ?_
          refine wp_iload D_128 rfl ?_
          refine wp_callS (c_ps_000 l Z a0 hw [(a55, oI "com/example/keyword_to_concept/keywordtoconcept/evaluation/RankedTopic" sg_1 [(.ref a50), (.int x54)]), (a50, oA .boolean [(0 : Int32), (0 : Int32)])]) D_130 (hw _ (List.mem_of_getElem? (i := 20) rfl)) (hw _ (List.mem_of_getElem? (i := 21) rfl)) (hw _ (List.mem_of_getElem? (i := 22) rfl)) (hw _ (List.mem_of_getElem? (i := 23) rfl)) (by decide) pd_3 rfl rfl rfl (Nat.le_of_ble_eq_true rfl) (Nat.le_of_ble_eq_true rfl) (Nat.le_of_ble_eq_true rfl) (Nat.le_of_ble_eq_true rfl) ?_
          rintro _ _ ⟨rfl, rfl⟩
          show Wp none l Z "com/example/keyword_to_concept/keywordtoconcept/evaluation/RankedTopicAveragePrecisionPinLaw" "law" code maxLocals ret room_1 [(a55, oI "com/example/keyword_to_concept/keywordtoconcept/evaluation/RankedTopic" sg_1 [(.ref a50), (.int x54)]), (a50, oA .boolean [(0 : Int32), (0 : Int32)])] 2 4 133 #[.val (.int a), .val (.int b), .val (.int (2 : Int32)), .val (.int x2), .val (.int (0 : Int32)), .val (.int (0 : Int32)), .val (.int (0 : Int32)), .val (.ref a50), .val (.int x54), .val (.ref a55), .val (.double (0 : UInt64)), .second, .unset, .unset, .unset, .unset] [(.double (0 : UInt64))] Q_law
          refine wp_dstore #[.val (.int a), .val (.int b), .val (.int (2 : Int32)), .val (.int x2), .val (.int (0 : Int32)), .val (.int (0 : Int32)), .val (.int (0 : Int32)), .val (.ref a50), .val (.int x54), .val (.ref a55), .val (.double (0 : UInt64)), .second, .val (.double (0 : UInt64)), .second, .unset, .unset] D_133 rfl ?_
          refine wp_iload D_135 rfl ?_
          refine wp_if_ne D_137 (pc'' := 144) ⟨by decide, by decide⟩ (fun h57 => by exact absurd hR56 h57) (fun h57 => ?_)
          refine wp_dconst0 0 D_140 (by decide +kernel) ?_
          refine wp_goto D_141 (pc'' := 150) ⟨by decide, by decide⟩ ?_
          refine wp_dstore #[.val (.int a), .val (.int b), .val (.int (2 : Int32)), .val (.int x2), .val (.int (0 : Int32)), .val (.int (0 : Int32)), .val (.int (0 : Int32)), .val (.ref a50), .val (.int x54), .val (.ref a55), .val (.double (0 : UInt64)), .second, .val (.double (0 : UInt64)), .second, .val (.double (0 : UInt64)), .second] D_150 rfl ?_
          refine wp_dload D_152 rfl ?_
          refine wp_dload D_154 rfl ?_
          refine wp_dcmp (0 : Int32) D_156 (by decide +kernel) ?_
          refine wp_if_ne D_157 (pc'' := 164) ⟨by decide, by decide⟩ (fun h58 => by exact absurd h58 (by decide)) (fun h58 => ?_)
          refine wp_iconst 1 D_160 (by decide) ?_
          refine wp_goto D_161 (pc'' := 165) ⟨by decide, by decide⟩ ?_
          refine wp_ireturnN D_165 rfl (by simp) (by decide) (by decide) ?_
          exact rfl
        · rw [if_neg hR56]
          show Wp none l Z "com/example/keyword_to_concept/keywordtoconcept/evaluation/RankedTopicAveragePrecisionPinLaw" "law" code maxLocals ret room_1 [(a55, oI "com/example/keyword_to_concept/keywordtoconcept/evaluation/RankedTopic" sg_1 [(.ref a50), (.int x54)]), (a50, oA .boolean [(0 : Int32), (0 : Int32)])] 2 4 122 #[.val (.int a), .val (.int b), .val (.int (2 : Int32)), .val (.int x2), .val (.int (0 : Int32)), .val (.int (0 : Int32)), .val (.int (0 : Int32)), .val (.ref a50), .val (.int x54), .val (.ref a55), .unset, .unset, .unset, .unset, .unset, .unset] [(.double (FP.ddiv (0 : UInt64) (FP.i2d x54)))] Q_law
          refine wp_dstore #[.val (.int a), .val (.int b), .val (.int (2 : Int32)), .val (.int x2), .val (.int (0 : Int32)), .val (.int (0 : Int32)), .val (.int (0 : Int32)), .val (.ref a50), .val (.int x54), .val (.ref a55), .val (.double (FP.ddiv (0 : UInt64) (FP.i2d x54))), .second, .unset, .unset, .unset, .unset] D_122 rfl ?_
          refine wp_iload D_124 rfl ?_
          refine wp_iload D_126 rfl ?_
          refine wp_iload D_128 rfl ?_
          refine wp_callS (c_ps_000 l Z a0 hw [(a55, oI "com/example/keyword_to_concept/keywordtoconcept/evaluation/RankedTopic" sg_1 [(.ref a50), (.int x54)]), (a50, oA .boolean [(0 : Int32), (0 : Int32)])]) D_130 (hw _ (List.mem_of_getElem? (i := 20) rfl)) (hw _ (List.mem_of_getElem? (i := 21) rfl)) (hw _ (List.mem_of_getElem? (i := 22) rfl)) (hw _ (List.mem_of_getElem? (i := 23) rfl)) (by decide) pd_3 rfl rfl rfl (Nat.le_of_ble_eq_true rfl) (Nat.le_of_ble_eq_true rfl) (Nat.le_of_ble_eq_true rfl) (Nat.le_of_ble_eq_true rfl) ?_
          rintro _ _ ⟨rfl, rfl⟩
          show Wp none l Z "com/example/keyword_to_concept/keywordtoconcept/evaluation/RankedTopicAveragePrecisionPinLaw" "law" code maxLocals ret room_1 [(a55, oI "com/example/keyword_to_concept/keywordtoconcept/evaluation/RankedTopic" sg_1 [(.ref a50), (.int x54)]), (a50, oA .boolean [(0 : Int32), (0 : Int32)])] 2 4 133 #[.val (.int a), .val (.int b), .val (.int (2 : Int32)), .val (.int x2), .val (.int (0 : Int32)), .val (.int (0 : Int32)), .val (.int (0 : Int32)), .val (.ref a50), .val (.int x54), .val (.ref a55), .val (.double (FP.ddiv (0 : UInt64) (FP.i2d x54))), .second, .unset, .unset, .unset, .unset] [(.double (0 : UInt64))] Q_law
          refine wp_dstore #[.val (.int a), .val (.int b), .val (.int (2 : Int32)), .val (.int x2), .val (.int (0 : Int32)), .val (.int (0 : Int32)), .val (.int (0 : Int32)), .val (.ref a50), .val (.int x54), .val (.ref a55), .val (.double (FP.ddiv (0 : UInt64) (FP.i2d x54))), .second, .val (.double (0 : UInt64)), .second, .unset, .unset] D_133 rfl ?_
          refine wp_iload D_135 rfl ?_
          refine wp_if_ne D_137 (pc'' := 144) ⟨by decide, by decide⟩ (fun h59 => ?_) (fun h59 => by exact absurd h59 hR56)
          refine wp_dload D_144 rfl ?_
          refine wp_iload D_146 rfl ?_
          refine wp_i2d (FP.i2d x54) D_148 rfl ?_
          refine wp_ddiv (FP.ddiv (0 : UInt64) (FP.i2d x54)) D_149 (Jvm.Free.Fl.ddiv_out (by unfold Jvm.Free.Fl.NoNaN64; decide +kernel) (Jvm.Free.Fl.i2d_fin _) (Jvm.Free.Fl.i2d_nz hR56)) rfl ?_
          refine wp_dstore #[.val (.int a), .val (.int b), .val (.int (2 : Int32)), .val (.int x2), .val (.int (0 : Int32)), .val (.int (0 : Int32)), .val (.int (0 : Int32)), .val (.ref a50), .val (.int x54), .val (.ref a55), .val (.double (FP.ddiv (0 : UInt64) (FP.i2d x54))), .second, .val (.double (0 : UInt64)), .second, .val (.double (FP.ddiv (0 : UInt64) (FP.i2d x54))), .second] D_150 rfl ?_
          refine wp_dload D_152 rfl ?_
          refine wp_dload D_154 rfl ?_
          refine wp_dcmp (0 : Int32) D_156 (dcmpV_self (Jvm.Free.Fl.ddiv_out (by unfold Jvm.Free.Fl.NoNaN64; decide +kernel) (Jvm.Free.Fl.i2d_fin _) (Jvm.Free.Fl.i2d_nz hR56)) _) ?_
          refine wp_if_ne D_157 (pc'' := 164) ⟨by decide, by decide⟩ (fun h60 => by exact absurd h60 (by decide)) (fun h60 => ?_)
          refine wp_iconst 1 D_160 (by decide) ?_
          refine wp_goto D_161 (pc'' := 165) ⟨by decide, by decide⟩ ?_
          refine wp_ireturnN D_165 rfl (by simp) (by decide) (by decide) ?_
          exact rfl
      · skip
        refine wp_iconst 1 D_36 (by decide) ?_
        refine wp_goto D_37 (pc'' := 41) ⟨by decide, by decide⟩ ?_
        refine wp_istore #[.val (.int a), .val (.int b), .val (.int (2 : Int32)), .val (.int x2), .val (.int (0 : Int32)), .val (.int (1 : Int32)), .unset, .unset, .unset, .unset, .unset, .unset, .unset, .unset, .unset, .unset] D_41 rfl ?_
        refine wp_iload_n D_43 rfl ?_
        refine wp_iconst 2 D_44 (by decide) ?_
        refine wp_icmp_le D_45 (pc'' := 58) ⟨by decide, by decide⟩ (fun h61 => ?_) (fun h61 => by exact absurd h61 (by decide))
        refine wp_iconst 0 D_58 (by decide) ?_
        refine wp_istore #[.val (.int a), .val (.int b), .val (.int (2 : Int32)), .val (.int x2), .val (.int (0 : Int32)), .val (.int (1 : Int32)), .val (.int (0 : Int32)), .unset, .unset, .unset, .unset, .unset, .unset, .unset, .unset, .unset] D_59 rfl ?_
        refine wp_iload_n D_61 rfl ?_
        refine wp_newarrayI (n := (2 : Int32)) (2) 2 D_62 rfl rfl rfl (hw _ (List.mem_of_getElem? (i := 0) rfl)) (by decide) (by decide) (by decide) (by decide) (by decide) (by decide) ?_
        intro a62
        show Wp none l Z "com/example/keyword_to_concept/keywordtoconcept/evaluation/RankedTopicAveragePrecisionPinLaw" "law" code maxLocals ret room_1 [(a62, oA .boolean [(0 : Int32), (0 : Int32)])] 1 2 64 #[.val (.int a), .val (.int b), .val (.int (2 : Int32)), .val (.int x2), .val (.int (0 : Int32)), .val (.int (1 : Int32)), .val (.int (0 : Int32)), .unset, .unset, .unset, .unset, .unset, .unset, .unset, .unset, .unset] [(.ref a62)] Q_law
        refine wp_astore #[.val (.int a), .val (.int b), .val (.int (2 : Int32)), .val (.int x2), .val (.int (0 : Int32)), .val (.int (1 : Int32)), .val (.int (0 : Int32)), .val (.ref a62), .unset, .unset, .unset, .unset, .unset, .unset, .unset, .unset] D_64 rfl rfl ?_
        refine wp_iload_n D_66 rfl ?_
        refine wp_if_le D_67 (pc'' := 76) ⟨by decide, by decide⟩ (fun h63 => by exact absurd h63 (by decide)) (fun h63 => ?_)
        refine wp_aload D_70 rfl rfl ?_
        refine wp_iconst 0 D_72 (by decide) ?_
        refine wp_iload D_73 rfl ?_
        refine wp_zastore (i := 0) (0) D_75 rfl (by decide) (by decide) (by first | decide | exact Nat.le_of_ble_eq_true rfl | simp) ?_
        rw [show (nar .boolean (0 : Int32)) = (0 : Int32) from by decide]
        show Wp none l Z "com/example/keyword_to_concept/keywordtoconcept/evaluation/RankedTopicAveragePrecisionPinLaw" "law" code maxLocals ret room_1 [(a62, oA .boolean [(0 : Int32), (0 : Int32)])] 1 2 76 #[.val (.int a), .val (.int b), .val (.int (2 : Int32)), .val (.int x2), .val (.int (0 : Int32)), .val (.int (1 : Int32)), .val (.int (0 : Int32)), .val (.ref a62), .unset, .unset, .unset, .unset, .unset, .unset, .unset, .unset] [] Q_law
        refine wp_iload_n D_76 rfl ?_
        refine wp_iconst 1 D_77 (by decide) ?_
        refine wp_icmp_le D_78 (pc'' := 87) ⟨by decide, by decide⟩ (fun h64 => by exact absurd h64 (by decide)) (fun h64 => ?_)
        refine wp_aload D_81 rfl rfl ?_
        refine wp_iconst 1 D_83 (by decide) ?_
        refine wp_iload D_84 rfl ?_
        refine wp_zastore (i := 0) (1) D_86 rfl (by decide) (by decide) (by first | decide | exact Nat.le_of_ble_eq_true rfl | simp) ?_
        rw [show (nar .boolean (1 : Int32)) = (1 : Int32) from by decide]
        show Wp none l Z "com/example/keyword_to_concept/keywordtoconcept/evaluation/RankedTopicAveragePrecisionPinLaw" "law" code maxLocals ret room_1 [(a62, oA .boolean [(0 : Int32), (1 : Int32)])] 1 2 87 #[.val (.int a), .val (.int b), .val (.int (2 : Int32)), .val (.int x2), .val (.int (0 : Int32)), .val (.int (1 : Int32)), .val (.int (0 : Int32)), .val (.ref a62), .unset, .unset, .unset, .unset, .unset, .unset, .unset, .unset] [] Q_law
        refine wp_iload_n D_87 rfl ?_
        refine wp_iconst 2 D_88 (by decide) ?_
        refine wp_icmp_le D_89 (pc'' := 98) ⟨by decide, by decide⟩ (fun h65 => ?_) (fun h65 => by exact absurd h65 (by decide))
        refine wp_iload_n D_98 rfl ?_
        refine wp_ldcI D_99 (hw _ (List.mem_of_getElem? (i := 1) rfl)) ?_
        refine wp_iand D_101 ?_
        generalize hg_x66 : (b &&& (2147483647 : Int32)) = x66
        refine wp_istore #[.val (.int a), .val (.int b), .val (.int (2 : Int32)), .val (.int x2), .val (.int (0 : Int32)), .val (.int (1 : Int32)), .val (.int (0 : Int32)), .val (.ref a62), .val (.int x66), .unset, .unset, .unset, .unset, .unset, .unset, .unset] D_102 rfl ?_
        refine wp_new sg_1 [(.null), (.int (0 : Int32))] D_104 (hw _ (List.mem_of_getElem? (i := 2) rfl)) (hw _ (List.mem_of_getElem? (i := 3) rfl)) (hw _ (List.mem_of_getElem? (i := 4) rfl)) (laid_sg_1 l Z a0 hw) (by decide) dfl_sg_1 (by decide) (by decide) ?_
        intro a67
        show Wp none l Z "com/example/keyword_to_concept/keywordtoconcept/evaluation/RankedTopicAveragePrecisionPinLaw" "law" code maxLocals ret room_1 [(a67, oI "com/example/keyword_to_concept/keywordtoconcept/evaluation/RankedTopic" sg_1 [(.null), (.int (0 : Int32))]), (a62, oA .boolean [(0 : Int32), (1 : Int32)])] 2 4 107 #[.val (.int a), .val (.int b), .val (.int (2 : Int32)), .val (.int x2), .val (.int (0 : Int32)), .val (.int (1 : Int32)), .val (.int (0 : Int32)), .val (.ref a62), .val (.int x66), .unset, .unset, .unset, .unset, .unset, .unset, .unset] [(.ref a67)] Q_law
        refine wp_dup D_107 rfl ?_
        refine wp_aload D_108 rfl rfl ?_
        refine wp_iload D_110 rfl ?_
        refine wp_init (c_ini l Z a0 hw a67 a62 x66 [(a62, oA .boolean [(0 : Int32), (1 : Int32)])]) D_112 rfl (hw _ (List.mem_of_getElem? (i := 5) rfl)) (hw _ (List.mem_of_getElem? (i := 6) rfl)) (hw _ (List.mem_of_getElem? (i := 4) rfl)) (hw _ (List.mem_of_getElem? (i := 7) rfl)) (by decide) pd_1 rfl rfl rfl (Nat.le_of_ble_eq_true rfl) (Nat.le_of_ble_eq_true rfl) (Nat.le_of_ble_eq_true rfl) (Nat.le_of_ble_eq_true rfl) ?_
        rintro _ _ ⟨rfl, rfl⟩
        show Wp none l Z "com/example/keyword_to_concept/keywordtoconcept/evaluation/RankedTopicAveragePrecisionPinLaw" "law" code maxLocals ret room_1 [(a67, oI "com/example/keyword_to_concept/keywordtoconcept/evaluation/RankedTopic" sg_1 [(.ref a62), (.int x66)]), (a62, oA .boolean [(0 : Int32), (1 : Int32)])] 2 4 115 #[.val (.int a), .val (.int b), .val (.int (2 : Int32)), .val (.int x2), .val (.int (0 : Int32)), .val (.int (1 : Int32)), .val (.int (0 : Int32)), .val (.ref a62), .val (.int x66), .unset, .unset, .unset, .unset, .unset, .unset, .unset] [(.ref a67)] Q_law
        refine wp_astore #[.val (.int a), .val (.int b), .val (.int (2 : Int32)), .val (.int x2), .val (.int (0 : Int32)), .val (.int (1 : Int32)), .val (.int (0 : Int32)), .val (.ref a62), .val (.int x66), .val (.ref a67), .unset, .unset, .unset, .unset, .unset, .unset] D_115 rfl rfl ?_
        refine wp_aload D_117 rfl rfl ?_
        refine wp_virtual (c_ap_01 l Z a0 hw a67 a62 x66 []) (exa_new (i := 0) rfl) D_119 (hw _ (List.mem_of_getElem? (i := 15) rfl)) (hw _ (List.mem_of_getElem? (i := 16) rfl)) (hw _ (List.mem_of_getElem? (i := 18) rfl)) (hw _ (List.mem_of_getElem? (i := 18) rfl)) (hw _ (List.mem_of_getElem? (i := 17) rfl)) (hw _ (List.mem_of_getElem? (i := 4) rfl)) (hw _ (List.mem_of_getElem? (i := 19) rfl)) (by decide) pd_2 rfl rfl rfl (Nat.le_of_ble_eq_true rfl) (Nat.le_of_ble_eq_true rfl) (Nat.le_of_ble_eq_true rfl) (Nat.le_of_ble_eq_true rfl) ?_
        rintro _ _ ⟨rfl, rfl⟩
        by_cases hR68 : x66 = 0
        · rw [if_pos hR68]
          show Wp none l Z "com/example/keyword_to_concept/keywordtoconcept/evaluation/RankedTopicAveragePrecisionPinLaw" "law" code maxLocals ret room_1 [(a67, oI "com/example/keyword_to_concept/keywordtoconcept/evaluation/RankedTopic" sg_1 [(.ref a62), (.int x66)]), (a62, oA .boolean [(0 : Int32), (1 : Int32)])] 2 4 122 #[.val (.int a), .val (.int b), .val (.int (2 : Int32)), .val (.int x2), .val (.int (0 : Int32)), .val (.int (1 : Int32)), .val (.int (0 : Int32)), .val (.ref a62), .val (.int x66), .val (.ref a67), .unset, .unset, .unset, .unset, .unset, .unset] [(.double (0 : UInt64))] Q_law
          refine wp_dstore #[.val (.int a), .val (.int b), .val (.int (2 : Int32)), .val (.int x2), .val (.int (0 : Int32)), .val (.int (1 : Int32)), .val (.int (0 : Int32)), .val (.ref a62), .val (.int x66), .val (.ref a67), .val (.double (0 : UInt64)), .second, .unset, .unset, .unset, .unset] D_122 rfl ?_
          refine wp_iload D_124 rfl ?_
          refine wp_iload D_126 rfl ?_
          refine wp_iload D_128 rfl ?_
          refine wp_callS (c_ps_010 l Z a0 hw [(a67, oI "com/example/keyword_to_concept/keywordtoconcept/evaluation/RankedTopic" sg_1 [(.ref a62), (.int x66)]), (a62, oA .boolean [(0 : Int32), (1 : Int32)])]) D_130 (hw _ (List.mem_of_getElem? (i := 20) rfl)) (hw _ (List.mem_of_getElem? (i := 21) rfl)) (hw _ (List.mem_of_getElem? (i := 22) rfl)) (hw _ (List.mem_of_getElem? (i := 23) rfl)) (by decide) pd_3 rfl rfl rfl (Nat.le_of_ble_eq_true rfl) (Nat.le_of_ble_eq_true rfl) (Nat.le_of_ble_eq_true rfl) (Nat.le_of_ble_eq_true rfl) ?_
          rintro _ _ ⟨rfl, rfl⟩
          show Wp none l Z "com/example/keyword_to_concept/keywordtoconcept/evaluation/RankedTopicAveragePrecisionPinLaw" "law" code maxLocals ret room_1 [(a67, oI "com/example/keyword_to_concept/keywordtoconcept/evaluation/RankedTopic" sg_1 [(.ref a62), (.int x66)]), (a62, oA .boolean [(0 : Int32), (1 : Int32)])] 2 4 133 #[.val (.int a), .val (.int b), .val (.int (2 : Int32)), .val (.int x2), .val (.int (0 : Int32)), .val (.int (1 : Int32)), .val (.int (0 : Int32)), .val (.ref a62), .val (.int x66), .val (.ref a67), .val (.double (0 : UInt64)), .second, .unset, .unset, .unset, .unset] [(.double (4602678819172646912 : UInt64))] Q_law
          refine wp_dstore #[.val (.int a), .val (.int b), .val (.int (2 : Int32)), .val (.int x2), .val (.int (0 : Int32)), .val (.int (1 : Int32)), .val (.int (0 : Int32)), .val (.ref a62), .val (.int x66), .val (.ref a67), .val (.double (0 : UInt64)), .second, .val (.double (4602678819172646912 : UInt64)), .second, .unset, .unset] D_133 rfl ?_
          refine wp_iload D_135 rfl ?_
          refine wp_if_ne D_137 (pc'' := 144) ⟨by decide, by decide⟩ (fun h69 => by exact absurd hR68 h69) (fun h69 => ?_)
          refine wp_dconst0 0 D_140 (by decide +kernel) ?_
          refine wp_goto D_141 (pc'' := 150) ⟨by decide, by decide⟩ ?_
          refine wp_dstore #[.val (.int a), .val (.int b), .val (.int (2 : Int32)), .val (.int x2), .val (.int (0 : Int32)), .val (.int (1 : Int32)), .val (.int (0 : Int32)), .val (.ref a62), .val (.int x66), .val (.ref a67), .val (.double (0 : UInt64)), .second, .val (.double (4602678819172646912 : UInt64)), .second, .val (.double (0 : UInt64)), .second] D_150 rfl ?_
          refine wp_dload D_152 rfl ?_
          refine wp_dload D_154 rfl ?_
          refine wp_dcmp (0 : Int32) D_156 (by decide +kernel) ?_
          refine wp_if_ne D_157 (pc'' := 164) ⟨by decide, by decide⟩ (fun h70 => by exact absurd h70 (by decide)) (fun h70 => ?_)
          refine wp_iconst 1 D_160 (by decide) ?_
          refine wp_goto D_161 (pc'' := 165) ⟨by decide, by decide⟩ ?_
          refine wp_ireturnN D_165 rfl (by simp) (by decide) (by decide) ?_
          exact rfl
        · rw [if_neg hR68]
          show Wp none l Z "com/example/keyword_to_concept/keywordtoconcept/evaluation/RankedTopicAveragePrecisionPinLaw" "law" code maxLocals ret room_1 [(a67, oI "com/example/keyword_to_concept/keywordtoconcept/evaluation/RankedTopic" sg_1 [(.ref a62), (.int x66)]), (a62, oA .boolean [(0 : Int32), (1 : Int32)])] 2 4 122 #[.val (.int a), .val (.int b), .val (.int (2 : Int32)), .val (.int x2), .val (.int (0 : Int32)), .val (.int (1 : Int32)), .val (.int (0 : Int32)), .val (.ref a62), .val (.int x66), .val (.ref a67), .unset, .unset, .unset, .unset, .unset, .unset] [(.double (FP.ddiv (4602678819172646912 : UInt64) (FP.i2d x66)))] Q_law
          refine wp_dstore #[.val (.int a), .val (.int b), .val (.int (2 : Int32)), .val (.int x2), .val (.int (0 : Int32)), .val (.int (1 : Int32)), .val (.int (0 : Int32)), .val (.ref a62), .val (.int x66), .val (.ref a67), .val (.double (FP.ddiv (4602678819172646912 : UInt64) (FP.i2d x66))), .second, .unset, .unset, .unset, .unset] D_122 rfl ?_
          refine wp_iload D_124 rfl ?_
          refine wp_iload D_126 rfl ?_
          refine wp_iload D_128 rfl ?_
          refine wp_callS (c_ps_010 l Z a0 hw [(a67, oI "com/example/keyword_to_concept/keywordtoconcept/evaluation/RankedTopic" sg_1 [(.ref a62), (.int x66)]), (a62, oA .boolean [(0 : Int32), (1 : Int32)])]) D_130 (hw _ (List.mem_of_getElem? (i := 20) rfl)) (hw _ (List.mem_of_getElem? (i := 21) rfl)) (hw _ (List.mem_of_getElem? (i := 22) rfl)) (hw _ (List.mem_of_getElem? (i := 23) rfl)) (by decide) pd_3 rfl rfl rfl (Nat.le_of_ble_eq_true rfl) (Nat.le_of_ble_eq_true rfl) (Nat.le_of_ble_eq_true rfl) (Nat.le_of_ble_eq_true rfl) ?_
          rintro _ _ ⟨rfl, rfl⟩
          show Wp none l Z "com/example/keyword_to_concept/keywordtoconcept/evaluation/RankedTopicAveragePrecisionPinLaw" "law" code maxLocals ret room_1 [(a67, oI "com/example/keyword_to_concept/keywordtoconcept/evaluation/RankedTopic" sg_1 [(.ref a62), (.int x66)]), (a62, oA .boolean [(0 : Int32), (1 : Int32)])] 2 4 133 #[.val (.int a), .val (.int b), .val (.int (2 : Int32)), .val (.int x2), .val (.int (0 : Int32)), .val (.int (1 : Int32)), .val (.int (0 : Int32)), .val (.ref a62), .val (.int x66), .val (.ref a67), .val (.double (FP.ddiv (4602678819172646912 : UInt64) (FP.i2d x66))), .second, .unset, .unset, .unset, .unset] [(.double (4602678819172646912 : UInt64))] Q_law
          refine wp_dstore #[.val (.int a), .val (.int b), .val (.int (2 : Int32)), .val (.int x2), .val (.int (0 : Int32)), .val (.int (1 : Int32)), .val (.int (0 : Int32)), .val (.ref a62), .val (.int x66), .val (.ref a67), .val (.double (FP.ddiv (4602678819172646912 : UInt64) (FP.i2d x66))), .second, .val (.double (4602678819172646912 : UInt64)), .second, .unset, .unset] D_133 rfl ?_
          refine wp_iload D_135 rfl ?_
          refine wp_if_ne D_137 (pc'' := 144) ⟨by decide, by decide⟩ (fun h71 => ?_) (fun h71 => by exact absurd h71 hR68)
          refine wp_dload D_144 rfl ?_
          refine wp_iload D_146 rfl ?_
          refine wp_i2d (FP.i2d x66) D_148 rfl ?_
          refine wp_ddiv (FP.ddiv (4602678819172646912 : UInt64) (FP.i2d x66)) D_149 (Jvm.Free.Fl.ddiv_out (by unfold Jvm.Free.Fl.NoNaN64; decide +kernel) (Jvm.Free.Fl.i2d_fin _) (Jvm.Free.Fl.i2d_nz hR68)) rfl ?_
          refine wp_dstore #[.val (.int a), .val (.int b), .val (.int (2 : Int32)), .val (.int x2), .val (.int (0 : Int32)), .val (.int (1 : Int32)), .val (.int (0 : Int32)), .val (.ref a62), .val (.int x66), .val (.ref a67), .val (.double (FP.ddiv (4602678819172646912 : UInt64) (FP.i2d x66))), .second, .val (.double (4602678819172646912 : UInt64)), .second, .val (.double (FP.ddiv (4602678819172646912 : UInt64) (FP.i2d x66))), .second] D_150 rfl ?_
          refine wp_dload D_152 rfl ?_
          refine wp_dload D_154 rfl ?_
          refine wp_dcmp (0 : Int32) D_156 (dcmpV_self (Jvm.Free.Fl.ddiv_out (by unfold Jvm.Free.Fl.NoNaN64; decide +kernel) (Jvm.Free.Fl.i2d_fin _) (Jvm.Free.Fl.i2d_nz hR68)) _) ?_
          refine wp_if_ne D_157 (pc'' := 164) ⟨by decide, by decide⟩ (fun h72 => by exact absurd h72 (by decide)) (fun h72 => ?_)
          refine wp_iconst 1 D_160 (by decide) ?_
          refine wp_goto D_161 (pc'' := 165) ⟨by decide, by decide⟩ ?_
          refine wp_ireturnN D_165 rfl (by simp) (by decide) (by decide) ?_
          exact rfl
    · skip
      refine wp_iconst 1 D_18 (by decide) ?_
      refine wp_goto D_19 (pc'' := 23) ⟨by decide, by decide⟩ ?_
      refine wp_istore #[.val (.int a), .val (.int b), .val (.int (2 : Int32)), .val (.int x2), .val (.int (1 : Int32)), .unset, .unset, .unset, .unset, .unset, .unset, .unset, .unset, .unset, .unset, .unset] D_23 rfl ?_
      refine wp_iload_n D_25 rfl ?_
      refine wp_iconst 1 D_26 (by decide) ?_
      refine wp_icmp_le D_27 (pc'' := 40) ⟨by decide, by decide⟩ (fun h73 => by exact absurd h73 (by decide)) (fun h73 => ?_)
      refine wp_iload_n D_30 rfl ?_
      refine wp_iconst 2 D_31 (by decide) ?_
      refine wp_iand D_32 ?_
      refine wp_if_eq D_33 (pc'' := 40) ⟨by decide, by decide⟩ (fun h74 => ?_) (fun h74 => ?_)
      · skip
        refine wp_iconst 0 D_40 (by decide) ?_
        refine wp_istore #[.val (.int a), .val (.int b), .val (.int (2 : Int32)), .val (.int x2), .val (.int (1 : Int32)), .val (.int (0 : Int32)), .unset, .unset, .unset, .unset, .unset, .unset, .unset, .unset, .unset, .unset] D_41 rfl ?_
        refine wp_iload_n D_43 rfl ?_
        refine wp_iconst 2 D_44 (by decide) ?_
        refine wp_icmp_le D_45 (pc'' := 58) ⟨by decide, by decide⟩ (fun h75 => ?_) (fun h75 => by exact absurd h75 (by decide))
        refine wp_iconst 0 D_58 (by decide) ?_
        refine wp_istore #[.val (.int a), .val (.int b), .val (.int (2 : Int32)), .val (.int x2), .val (.int (1 : Int32)), .val (.int (0 : Int32)), .val (.int (0 : Int32)), .unset, .unset, .unset, .unset, .unset, .unset, .unset, .unset, .unset] D_59 rfl ?_
        refine wp_iload_n D_61 rfl ?_
        refine wp_newarrayI (n := (2 : Int32)) (2) 2 D_62 rfl rfl rfl (hw _ (List.mem_of_getElem? (i := 0) rfl)) (by decide) (by decide) (by decide) (by decide) (by decide) (by decide) ?_
        intro a76
        show Wp none l Z "com/example/keyword_to_concept/keywordtoconcept/evaluation/RankedTopicAveragePrecisionPinLaw" "law" code maxLocals ret room_1 [(a76, oA .boolean [(0 : Int32), (0 : Int32)])] 1 2 64 #[.val (.int a), .val (.int b), .val (.int (2 : Int32)), .val (.int x2), .val (.int (1 : Int32)), .val (.int (0 : Int32)), .val (.int (0 : Int32)), .unset, .unset, .unset, .unset, .unset, .unset, .unset, .unset, .unset] [(.ref a76)] Q_law
        refine wp_astore #[.val (.int a), .val (.int b), .val (.int (2 : Int32)), .val (.int x2), .val (.int (1 : Int32)), .val (.int (0 : Int32)), .val (.int (0 : Int32)), .val (.ref a76), .unset, .unset, .unset, .unset, .unset, .unset, .unset, .unset] D_64 rfl rfl ?_
        refine wp_iload_n D_66 rfl ?_
        refine wp_if_le D_67 (pc'' := 76) ⟨by decide, by decide⟩ (fun h77 => by exact absurd h77 (by decide)) (fun h77 => ?_)
        refine wp_aload D_70 rfl rfl ?_
        refine wp_iconst 0 D_72 (by decide) ?_
        refine wp_iload D_73 rfl ?_
        refine wp_zastore (i := 0) (0) D_75 rfl (by decide) (by decide) (by first | decide | exact Nat.le_of_ble_eq_true rfl | simp) ?_
        rw [show (nar .boolean (1 : Int32)) = (1 : Int32) from by decide]
        show Wp none l Z "com/example/keyword_to_concept/keywordtoconcept/evaluation/RankedTopicAveragePrecisionPinLaw" "law" code maxLocals ret room_1 [(a76, oA .boolean [(1 : Int32), (0 : Int32)])] 1 2 76 #[.val (.int a), .val (.int b), .val (.int (2 : Int32)), .val (.int x2), .val (.int (1 : Int32)), .val (.int (0 : Int32)), .val (.int (0 : Int32)), .val (.ref a76), .unset, .unset, .unset, .unset, .unset, .unset, .unset, .unset] [] Q_law
        refine wp_iload_n D_76 rfl ?_
        refine wp_iconst 1 D_77 (by decide) ?_
        refine wp_icmp_le D_78 (pc'' := 87) ⟨by decide, by decide⟩ (fun h78 => by exact absurd h78 (by decide)) (fun h78 => ?_)
        refine wp_aload D_81 rfl rfl ?_
        refine wp_iconst 1 D_83 (by decide) ?_
        refine wp_iload D_84 rfl ?_
        refine wp_zastore (i := 0) (1) D_86 rfl (by decide) (by decide) (by first | decide | exact Nat.le_of_ble_eq_true rfl | simp) ?_
        rw [show (nar .boolean (0 : Int32)) = (0 : Int32) from by decide]
        show Wp none l Z "com/example/keyword_to_concept/keywordtoconcept/evaluation/RankedTopicAveragePrecisionPinLaw" "law" code maxLocals ret room_1 [(a76, oA .boolean [(1 : Int32), (0 : Int32)])] 1 2 87 #[.val (.int a), .val (.int b), .val (.int (2 : Int32)), .val (.int x2), .val (.int (1 : Int32)), .val (.int (0 : Int32)), .val (.int (0 : Int32)), .val (.ref a76), .unset, .unset, .unset, .unset, .unset, .unset, .unset, .unset] [] Q_law
        refine wp_iload_n D_87 rfl ?_
        refine wp_iconst 2 D_88 (by decide) ?_
        refine wp_icmp_le D_89 (pc'' := 98) ⟨by decide, by decide⟩ (fun h79 => ?_) (fun h79 => by exact absurd h79 (by decide))
        refine wp_iload_n D_98 rfl ?_
        refine wp_ldcI D_99 (hw _ (List.mem_of_getElem? (i := 1) rfl)) ?_
        refine wp_iand D_101 ?_
        generalize hg_x80 : (b &&& (2147483647 : Int32)) = x80
        refine wp_istore #[.val (.int a), .val (.int b), .val (.int (2 : Int32)), .val (.int x2), .val (.int (1 : Int32)), .val (.int (0 : Int32)), .val (.int (0 : Int32)), .val (.ref a76), .val (.int x80), .unset, .unset, .unset, .unset, .unset, .unset, .unset] D_102 rfl ?_
        refine wp_new sg_1 [(.null), (.int (0 : Int32))] D_104 (hw _ (List.mem_of_getElem? (i := 2) rfl)) (hw _ (List.mem_of_getElem? (i := 3) rfl)) (hw _ (List.mem_of_getElem? (i := 4) rfl)) (laid_sg_1 l Z a0 hw) (by decide) dfl_sg_1 (by decide) (by decide) ?_
        intro a81
        show Wp none l Z "com/example/keyword_to_concept/keywordtoconcept/evaluation/RankedTopicAveragePrecisionPinLaw" "law" code maxLocals ret room_1 [(a81, oI "com/example/keyword_to_concept/keywordtoconcept/evaluation/RankedTopic" sg_1 [(.null), (.int (0 : Int32))]), (a76, oA .boolean [(1 : Int32), (0 : Int32)])] 2 4 107 #[.val (.int a), .val (.int b), .val (.int (2 : Int32)), .val (.int x2), .val (.int (1 : Int32)), .val (.int (0 : Int32)), .val (.int (0 : Int32)), .val (.ref a76), .val (.int x80), .unset, .unset, .unset, .unset, .unset, .unset, .unset] [(.ref a81)] Q_law
        refine wp_dup D_107 rfl ?_
        refine wp_aload D_108 rfl rfl ?_
        refine wp_iload D_110 rfl ?_
        refine wp_init (c_ini l Z a0 hw a81 a76 x80 [(a76, oA .boolean [(1 : Int32), (0 : Int32)])]) D_112 rfl (hw _ (List.mem_of_getElem? (i := 5) rfl)) (hw _ (List.mem_of_getElem? (i := 6) rfl)) (hw _ (List.mem_of_getElem? (i := 4) rfl)) (hw _ (List.mem_of_getElem? (i := 7) rfl)) (by decide) pd_1 rfl rfl rfl (Nat.le_of_ble_eq_true rfl) (Nat.le_of_ble_eq_true rfl) (Nat.le_of_ble_eq_true rfl) (Nat.le_of_ble_eq_true rfl) ?_
        rintro _ _ ⟨rfl, rfl⟩
        show Wp none l Z "com/example/keyword_to_concept/keywordtoconcept/evaluation/RankedTopicAveragePrecisionPinLaw" "law" code maxLocals ret room_1 [(a81, oI "com/example/keyword_to_concept/keywordtoconcept/evaluation/RankedTopic" sg_1 [(.ref a76), (.int x80)]), (a76, oA .boolean [(1 : Int32), (0 : Int32)])] 2 4 115 #[.val (.int a), .val (.int b), .val (.int (2 : Int32)), .val (.int x2), .val (.int (1 : Int32)), .val (.int (0 : Int32)), .val (.int (0 : Int32)), .val (.ref a76), .val (.int x80), .unset, .unset, .unset, .unset, .unset, .unset, .unset] [(.ref a81)] Q_law
        refine wp_astore #[.val (.int a), .val (.int b), .val (.int (2 : Int32)), .val (.int x2), .val (.int (1 : Int32)), .val (.int (0 : Int32)), .val (.int (0 : Int32)), .val (.ref a76), .val (.int x80), .val (.ref a81), .unset, .unset, .unset, .unset, .unset, .unset] D_115 rfl rfl ?_
        refine wp_aload D_117 rfl rfl ?_
        refine wp_virtual (c_ap_10 l Z a0 hw a81 a76 x80 []) (exa_new (i := 0) rfl) D_119 (hw _ (List.mem_of_getElem? (i := 15) rfl)) (hw _ (List.mem_of_getElem? (i := 16) rfl)) (hw _ (List.mem_of_getElem? (i := 18) rfl)) (hw _ (List.mem_of_getElem? (i := 18) rfl)) (hw _ (List.mem_of_getElem? (i := 17) rfl)) (hw _ (List.mem_of_getElem? (i := 4) rfl)) (hw _ (List.mem_of_getElem? (i := 19) rfl)) (by decide) pd_2 rfl rfl rfl (Nat.le_of_ble_eq_true rfl) (Nat.le_of_ble_eq_true rfl) (Nat.le_of_ble_eq_true rfl) (Nat.le_of_ble_eq_true rfl) ?_
        rintro _ _ ⟨rfl, rfl⟩
        by_cases hR82 : x80 = 0
        · rw [if_pos hR82]
          show Wp none l Z "com/example/keyword_to_concept/keywordtoconcept/evaluation/RankedTopicAveragePrecisionPinLaw" "law" code maxLocals ret room_1 [(a81, oI "com/example/keyword_to_concept/keywordtoconcept/evaluation/RankedTopic" sg_1 [(.ref a76), (.int x80)]), (a76, oA .boolean [(1 : Int32), (0 : Int32)])] 2 4 122 #[.val (.int a), .val (.int b), .val (.int (2 : Int32)), .val (.int x2), .val (.int (1 : Int32)), .val (.int (0 : Int32)), .val (.int (0 : Int32)), .val (.ref a76), .val (.int x80), .val (.ref a81), .unset, .unset, .unset, .unset, .unset, .unset] [(.double (0 : UInt64))] Q_law
          refine wp_dstore #[.val (.int a), .val (.int b), .val (.int (2 : Int32)), .val (.int x2), .val (.int (1 : Int32)), .val (.int (0 : Int32)), .val (.int (0 : Int32)), .val (.ref a76), .val (.int x80), .val (.ref a81), .val (.double (0 : UInt64)), .second, .unset, .unset, .unset, .unset] D_122 rfl ?_
          refine wp_iload D_124 rfl ?_
          refine wp_iload D_126 rfl ?_
          refine wp_iload D_128 rfl ?_
          refine wp_callS (c_ps_100 l Z a0 hw [(a81, oI "com/example/keyword_to_concept/keywordtoconcept/evaluation/RankedTopic" sg_1 [(.ref a76), (.int x80)]), (a76, oA .boolean [(1 : Int32), (0 : Int32)])]) D_130 (hw _ (List.mem_of_getElem? (i := 20) rfl)) (hw _ (List.mem_of_getElem? (i := 21) rfl)) (hw _ (List.mem_of_getElem? (i := 22) rfl)) (hw _ (List.mem_of_getElem? (i := 23) rfl)) (by decide) pd_3 rfl rfl rfl (Nat.le_of_ble_eq_true rfl) (Nat.le_of_ble_eq_true rfl) (Nat.le_of_ble_eq_true rfl) (Nat.le_of_ble_eq_true rfl) ?_
          rintro _ _ ⟨rfl, rfl⟩
          show Wp none l Z "com/example/keyword_to_concept/keywordtoconcept/evaluation/RankedTopicAveragePrecisionPinLaw" "law" code maxLocals ret room_1 [(a81, oI "com/example/keyword_to_concept/keywordtoconcept/evaluation/RankedTopic" sg_1 [(.ref a76), (.int x80)]), (a76, oA .boolean [(1 : Int32), (0 : Int32)])] 2 4 133 #[.val (.int a), .val (.int b), .val (.int (2 : Int32)), .val (.int x2), .val (.int (1 : Int32)), .val (.int (0 : Int32)), .val (.int (0 : Int32)), .val (.ref a76), .val (.int x80), .val (.ref a81), .val (.double (0 : UInt64)), .second, .unset, .unset, .unset, .unset] [(.double (4607182418800017408 : UInt64))] Q_law
          refine wp_dstore #[.val (.int a), .val (.int b), .val (.int (2 : Int32)), .val (.int x2), .val (.int (1 : Int32)), .val (.int (0 : Int32)), .val (.int (0 : Int32)), .val (.ref a76), .val (.int x80), .val (.ref a81), .val (.double (0 : UInt64)), .second, .val (.double (4607182418800017408 : UInt64)), .second, .unset, .unset] D_133 rfl ?_
          refine wp_iload D_135 rfl ?_
          refine wp_if_ne D_137 (pc'' := 144) ⟨by decide, by decide⟩ (fun h83 => by exact absurd hR82 h83) (fun h83 => ?_)
          refine wp_dconst0 0 D_140 (by decide +kernel) ?_
          refine wp_goto D_141 (pc'' := 150) ⟨by decide, by decide⟩ ?_
          refine wp_dstore #[.val (.int a), .val (.int b), .val (.int (2 : Int32)), .val (.int x2), .val (.int (1 : Int32)), .val (.int (0 : Int32)), .val (.int (0 : Int32)), .val (.ref a76), .val (.int x80), .val (.ref a81), .val (.double (0 : UInt64)), .second, .val (.double (4607182418800017408 : UInt64)), .second, .val (.double (0 : UInt64)), .second] D_150 rfl ?_
          refine wp_dload D_152 rfl ?_
          refine wp_dload D_154 rfl ?_
          refine wp_dcmp (0 : Int32) D_156 (by decide +kernel) ?_
          refine wp_if_ne D_157 (pc'' := 164) ⟨by decide, by decide⟩ (fun h84 => by exact absurd h84 (by decide)) (fun h84 => ?_)
          refine wp_iconst 1 D_160 (by decide) ?_
          refine wp_goto D_161 (pc'' := 165) ⟨by decide, by decide⟩ ?_
          refine wp_ireturnN D_165 rfl (by simp) (by decide) (by decide) ?_
          exact rfl
        · rw [if_neg hR82]
          show Wp none l Z "com/example/keyword_to_concept/keywordtoconcept/evaluation/RankedTopicAveragePrecisionPinLaw" "law" code maxLocals ret room_1 [(a81, oI "com/example/keyword_to_concept/keywordtoconcept/evaluation/RankedTopic" sg_1 [(.ref a76), (.int x80)]), (a76, oA .boolean [(1 : Int32), (0 : Int32)])] 2 4 122 #[.val (.int a), .val (.int b), .val (.int (2 : Int32)), .val (.int x2), .val (.int (1 : Int32)), .val (.int (0 : Int32)), .val (.int (0 : Int32)), .val (.ref a76), .val (.int x80), .val (.ref a81), .unset, .unset, .unset, .unset, .unset, .unset] [(.double (FP.ddiv (4607182418800017408 : UInt64) (FP.i2d x80)))] Q_law
          refine wp_dstore #[.val (.int a), .val (.int b), .val (.int (2 : Int32)), .val (.int x2), .val (.int (1 : Int32)), .val (.int (0 : Int32)), .val (.int (0 : Int32)), .val (.ref a76), .val (.int x80), .val (.ref a81), .val (.double (FP.ddiv (4607182418800017408 : UInt64) (FP.i2d x80))), .second, .unset, .unset, .unset, .unset] D_122 rfl ?_
          refine wp_iload D_124 rfl ?_
          refine wp_iload D_126 rfl ?_
          refine wp_iload D_128 rfl ?_
          refine wp_callS (c_ps_100 l Z a0 hw [(a81, oI "com/example/keyword_to_concept/keywordtoconcept/evaluation/RankedTopic" sg_1 [(.ref a76), (.int x80)]), (a76, oA .boolean [(1 : Int32), (0 : Int32)])]) D_130 (hw _ (List.mem_of_getElem? (i := 20) rfl)) (hw _ (List.mem_of_getElem? (i := 21) rfl)) (hw _ (List.mem_of_getElem? (i := 22) rfl)) (hw _ (List.mem_of_getElem? (i := 23) rfl)) (by decide) pd_3 rfl rfl rfl (Nat.le_of_ble_eq_true rfl) (Nat.le_of_ble_eq_true rfl) (Nat.le_of_ble_eq_true rfl) (Nat.le_of_ble_eq_true rfl) ?_
          rintro _ _ ⟨rfl, rfl⟩
          show Wp none l Z "com/example/keyword_to_concept/keywordtoconcept/evaluation/RankedTopicAveragePrecisionPinLaw" "law" code maxLocals ret room_1 [(a81, oI "com/example/keyword_to_concept/keywordtoconcept/evaluation/RankedTopic" sg_1 [(.ref a76), (.int x80)]), (a76, oA .boolean [(1 : Int32), (0 : Int32)])] 2 4 133 #[.val (.int a), .val (.int b), .val (.int (2 : Int32)), .val (.int x2), .val (.int (1 : Int32)), .val (.int (0 : Int32)), .val (.int (0 : Int32)), .val (.ref a76), .val (.int x80), .val (.ref a81), .val (.double (FP.ddiv (4607182418800017408 : UInt64) (FP.i2d x80))), .second, .unset, .unset, .unset, .unset] [(.double (4607182418800017408 : UInt64))] Q_law
          refine wp_dstore #[.val (.int a), .val (.int b), .val (.int (2 : Int32)), .val (.int x2), .val (.int (1 : Int32)), .val (.int (0 : Int32)), .val (.int (0 : Int32)), .val (.ref a76), .val (.int x80), .val (.ref a81), .val (.double (FP.ddiv (4607182418800017408 : UInt64) (FP.i2d x80))), .second, .val (.double (4607182418800017408 : UInt64)), .second, .unset, .unset] D_133 rfl ?_
          refine wp_iload D_135 rfl ?_
          refine wp_if_ne D_137 (pc'' := 144) ⟨by decide, by decide⟩ (fun h85 => ?_) (fun h85 => by exact absurd h85 hR82)
          refine wp_dload D_144 rfl ?_
          refine wp_iload D_146 rfl ?_
          refine wp_i2d (FP.i2d x80) D_148 rfl ?_
          refine wp_ddiv (FP.ddiv (4607182418800017408 : UInt64) (FP.i2d x80)) D_149 (Jvm.Free.Fl.ddiv_out (by unfold Jvm.Free.Fl.NoNaN64; decide +kernel) (Jvm.Free.Fl.i2d_fin _) (Jvm.Free.Fl.i2d_nz hR82)) rfl ?_
          refine wp_dstore #[.val (.int a), .val (.int b), .val (.int (2 : Int32)), .val (.int x2), .val (.int (1 : Int32)), .val (.int (0 : Int32)), .val (.int (0 : Int32)), .val (.ref a76), .val (.int x80), .val (.ref a81), .val (.double (FP.ddiv (4607182418800017408 : UInt64) (FP.i2d x80))), .second, .val (.double (4607182418800017408 : UInt64)), .second, .val (.double (FP.ddiv (4607182418800017408 : UInt64) (FP.i2d x80))), .second] D_150 rfl ?_
          refine wp_dload D_152 rfl ?_
          refine wp_dload D_154 rfl ?_
          refine wp_dcmp (0 : Int32) D_156 (dcmpV_self (Jvm.Free.Fl.ddiv_out (by unfold Jvm.Free.Fl.NoNaN64; decide +kernel) (Jvm.Free.Fl.i2d_fin _) (Jvm.Free.Fl.i2d_nz hR82)) _) ?_
          refine wp_if_ne D_157 (pc'' := 164) ⟨by decide, by decide⟩ (fun h86 => by exact absurd h86 (by decide)) (fun h86 => ?_)
          refine wp_iconst 1 D_160 (by decide) ?_
          refine wp_goto D_161 (pc'' := 165) ⟨by decide, by decide⟩ ?_
          refine wp_ireturnN D_165 rfl (by simp) (by decide) (by decide) ?_
          exact rfl
      · skip
        refine wp_iconst 1 D_36 (by decide) ?_
        refine wp_goto D_37 (pc'' := 41) ⟨by decide, by decide⟩ ?_
        refine wp_istore #[.val (.int a), .val (.int b), .val (.int (2 : Int32)), .val (.int x2), .val (.int (1 : Int32)), .val (.int (1 : Int32)), .unset, .unset, .unset, .unset, .unset, .unset, .unset, .unset, .unset, .unset] D_41 rfl ?_
        refine wp_iload_n D_43 rfl ?_
        refine wp_iconst 2 D_44 (by decide) ?_
        refine wp_icmp_le D_45 (pc'' := 58) ⟨by decide, by decide⟩ (fun h87 => ?_) (fun h87 => by exact absurd h87 (by decide))
        refine wp_iconst 0 D_58 (by decide) ?_
        refine wp_istore #[.val (.int a), .val (.int b), .val (.int (2 : Int32)), .val (.int x2), .val (.int (1 : Int32)), .val (.int (1 : Int32)), .val (.int (0 : Int32)), .unset, .unset, .unset, .unset, .unset, .unset, .unset, .unset, .unset] D_59 rfl ?_
        refine wp_iload_n D_61 rfl ?_
        refine wp_newarrayI (n := (2 : Int32)) (2) 2 D_62 rfl rfl rfl (hw _ (List.mem_of_getElem? (i := 0) rfl)) (by decide) (by decide) (by decide) (by decide) (by decide) (by decide) ?_
        intro a88
        show Wp none l Z "com/example/keyword_to_concept/keywordtoconcept/evaluation/RankedTopicAveragePrecisionPinLaw" "law" code maxLocals ret room_1 [(a88, oA .boolean [(0 : Int32), (0 : Int32)])] 1 2 64 #[.val (.int a), .val (.int b), .val (.int (2 : Int32)), .val (.int x2), .val (.int (1 : Int32)), .val (.int (1 : Int32)), .val (.int (0 : Int32)), .unset, .unset, .unset, .unset, .unset, .unset, .unset, .unset, .unset] [(.ref a88)] Q_law
        refine wp_astore #[.val (.int a), .val (.int b), .val (.int (2 : Int32)), .val (.int x2), .val (.int (1 : Int32)), .val (.int (1 : Int32)), .val (.int (0 : Int32)), .val (.ref a88), .unset, .unset, .unset, .unset, .unset, .unset, .unset, .unset] D_64 rfl rfl ?_
        refine wp_iload_n D_66 rfl ?_
        refine wp_if_le D_67 (pc'' := 76) ⟨by decide, by decide⟩ (fun h89 => by exact absurd h89 (by decide)) (fun h89 => ?_)
        refine wp_aload D_70 rfl rfl ?_
        refine wp_iconst 0 D_72 (by decide) ?_
        refine wp_iload D_73 rfl ?_
        refine wp_zastore (i := 0) (0) D_75 rfl (by decide) (by decide) (by first | decide | exact Nat.le_of_ble_eq_true rfl | simp) ?_
        rw [show (nar .boolean (1 : Int32)) = (1 : Int32) from by decide]
        show Wp none l Z "com/example/keyword_to_concept/keywordtoconcept/evaluation/RankedTopicAveragePrecisionPinLaw" "law" code maxLocals ret room_1 [(a88, oA .boolean [(1 : Int32), (0 : Int32)])] 1 2 76 #[.val (.int a), .val (.int b), .val (.int (2 : Int32)), .val (.int x2), .val (.int (1 : Int32)), .val (.int (1 : Int32)), .val (.int (0 : Int32)), .val (.ref a88), .unset, .unset, .unset, .unset, .unset, .unset, .unset, .unset] [] Q_law
        refine wp_iload_n D_76 rfl ?_
        refine wp_iconst 1 D_77 (by decide) ?_
        refine wp_icmp_le D_78 (pc'' := 87) ⟨by decide, by decide⟩ (fun h90 => by exact absurd h90 (by decide)) (fun h90 => ?_)
        refine wp_aload D_81 rfl rfl ?_
        refine wp_iconst 1 D_83 (by decide) ?_
        refine wp_iload D_84 rfl ?_
        refine wp_zastore (i := 0) (1) D_86 rfl (by decide) (by decide) (by first | decide | exact Nat.le_of_ble_eq_true rfl | simp) ?_
        rw [show (nar .boolean (1 : Int32)) = (1 : Int32) from by decide]
        show Wp none l Z "com/example/keyword_to_concept/keywordtoconcept/evaluation/RankedTopicAveragePrecisionPinLaw" "law" code maxLocals ret room_1 [(a88, oA .boolean [(1 : Int32), (1 : Int32)])] 1 2 87 #[.val (.int a), .val (.int b), .val (.int (2 : Int32)), .val (.int x2), .val (.int (1 : Int32)), .val (.int (1 : Int32)), .val (.int (0 : Int32)), .val (.ref a88), .unset, .unset, .unset, .unset, .unset, .unset, .unset, .unset] [] Q_law
        refine wp_iload_n D_87 rfl ?_
        refine wp_iconst 2 D_88 (by decide) ?_
        refine wp_icmp_le D_89 (pc'' := 98) ⟨by decide, by decide⟩ (fun h91 => ?_) (fun h91 => by exact absurd h91 (by decide))
        refine wp_iload_n D_98 rfl ?_
        refine wp_ldcI D_99 (hw _ (List.mem_of_getElem? (i := 1) rfl)) ?_
        refine wp_iand D_101 ?_
        generalize hg_x92 : (b &&& (2147483647 : Int32)) = x92
        refine wp_istore #[.val (.int a), .val (.int b), .val (.int (2 : Int32)), .val (.int x2), .val (.int (1 : Int32)), .val (.int (1 : Int32)), .val (.int (0 : Int32)), .val (.ref a88), .val (.int x92), .unset, .unset, .unset, .unset, .unset, .unset, .unset] D_102 rfl ?_
        refine wp_new sg_1 [(.null), (.int (0 : Int32))] D_104 (hw _ (List.mem_of_getElem? (i := 2) rfl)) (hw _ (List.mem_of_getElem? (i := 3) rfl)) (hw _ (List.mem_of_getElem? (i := 4) rfl)) (laid_sg_1 l Z a0 hw) (by decide) dfl_sg_1 (by decide) (by decide) ?_
        intro a93
        show Wp none l Z "com/example/keyword_to_concept/keywordtoconcept/evaluation/RankedTopicAveragePrecisionPinLaw" "law" code maxLocals ret room_1 [(a93, oI "com/example/keyword_to_concept/keywordtoconcept/evaluation/RankedTopic" sg_1 [(.null), (.int (0 : Int32))]), (a88, oA .boolean [(1 : Int32), (1 : Int32)])] 2 4 107 #[.val (.int a), .val (.int b), .val (.int (2 : Int32)), .val (.int x2), .val (.int (1 : Int32)), .val (.int (1 : Int32)), .val (.int (0 : Int32)), .val (.ref a88), .val (.int x92), .unset, .unset, .unset, .unset, .unset, .unset, .unset] [(.ref a93)] Q_law
        refine wp_dup D_107 rfl ?_
        refine wp_aload D_108 rfl rfl ?_
        refine wp_iload D_110 rfl ?_
        refine wp_init (c_ini l Z a0 hw a93 a88 x92 [(a88, oA .boolean [(1 : Int32), (1 : Int32)])]) D_112 rfl (hw _ (List.mem_of_getElem? (i := 5) rfl)) (hw _ (List.mem_of_getElem? (i := 6) rfl)) (hw _ (List.mem_of_getElem? (i := 4) rfl)) (hw _ (List.mem_of_getElem? (i := 7) rfl)) (by decide) pd_1 rfl rfl rfl (Nat.le_of_ble_eq_true rfl) (Nat.le_of_ble_eq_true rfl) (Nat.le_of_ble_eq_true rfl) (Nat.le_of_ble_eq_true rfl) ?_
        rintro _ _ ⟨rfl, rfl⟩
        show Wp none l Z "com/example/keyword_to_concept/keywordtoconcept/evaluation/RankedTopicAveragePrecisionPinLaw" "law" code maxLocals ret room_1 [(a93, oI "com/example/keyword_to_concept/keywordtoconcept/evaluation/RankedTopic" sg_1 [(.ref a88), (.int x92)]), (a88, oA .boolean [(1 : Int32), (1 : Int32)])] 2 4 115 #[.val (.int a), .val (.int b), .val (.int (2 : Int32)), .val (.int x2), .val (.int (1 : Int32)), .val (.int (1 : Int32)), .val (.int (0 : Int32)), .val (.ref a88), .val (.int x92), .unset, .unset, .unset, .unset, .unset, .unset, .unset] [(.ref a93)] Q_law
        refine wp_astore #[.val (.int a), .val (.int b), .val (.int (2 : Int32)), .val (.int x2), .val (.int (1 : Int32)), .val (.int (1 : Int32)), .val (.int (0 : Int32)), .val (.ref a88), .val (.int x92), .val (.ref a93), .unset, .unset, .unset, .unset, .unset, .unset] D_115 rfl rfl ?_
        refine wp_aload D_117 rfl rfl ?_
        refine wp_virtual (c_ap_11 l Z a0 hw a93 a88 x92 []) (exa_new (i := 0) rfl) D_119 (hw _ (List.mem_of_getElem? (i := 15) rfl)) (hw _ (List.mem_of_getElem? (i := 16) rfl)) (hw _ (List.mem_of_getElem? (i := 18) rfl)) (hw _ (List.mem_of_getElem? (i := 18) rfl)) (hw _ (List.mem_of_getElem? (i := 17) rfl)) (hw _ (List.mem_of_getElem? (i := 4) rfl)) (hw _ (List.mem_of_getElem? (i := 19) rfl)) (by decide) pd_2 rfl rfl rfl (Nat.le_of_ble_eq_true rfl) (Nat.le_of_ble_eq_true rfl) (Nat.le_of_ble_eq_true rfl) (Nat.le_of_ble_eq_true rfl) ?_
        rintro _ _ ⟨rfl, rfl⟩
        by_cases hR94 : x92 = 0
        · rw [if_pos hR94]
          show Wp none l Z "com/example/keyword_to_concept/keywordtoconcept/evaluation/RankedTopicAveragePrecisionPinLaw" "law" code maxLocals ret room_1 [(a93, oI "com/example/keyword_to_concept/keywordtoconcept/evaluation/RankedTopic" sg_1 [(.ref a88), (.int x92)]), (a88, oA .boolean [(1 : Int32), (1 : Int32)])] 2 4 122 #[.val (.int a), .val (.int b), .val (.int (2 : Int32)), .val (.int x2), .val (.int (1 : Int32)), .val (.int (1 : Int32)), .val (.int (0 : Int32)), .val (.ref a88), .val (.int x92), .val (.ref a93), .unset, .unset, .unset, .unset, .unset, .unset] [(.double (0 : UInt64))] Q_law
          refine wp_dstore #[.val (.int a), .val (.int b), .val (.int (2 : Int32)), .val (.int x2), .val (.int (1 : Int32)), .val (.int (1 : Int32)), .val (.int (0 : Int32)), .val (.ref a88), .val (.int x92), .val (.ref a93), .val (.double (0 : UInt64)), .second, .unset, .unset, .unset, .unset] D_122 rfl ?_
          refine wp_iload D_124 rfl ?_
          refine wp_iload D_126 rfl ?_
          refine wp_iload D_128 rfl ?_
          refine wp_callS (c_ps_110 l Z a0 hw [(a93, oI "com/example/keyword_to_concept/keywordtoconcept/evaluation/RankedTopic" sg_1 [(.ref a88), (.int x92)]), (a88, oA .boolean [(1 : Int32), (1 : Int32)])]) D_130 (hw _ (List.mem_of_getElem? (i := 20) rfl)) (hw _ (List.mem_of_getElem? (i := 21) rfl)) (hw _ (List.mem_of_getElem? (i := 22) rfl)) (hw _ (List.mem_of_getElem? (i := 23) rfl)) (by decide) pd_3 rfl rfl rfl (Nat.le_of_ble_eq_true rfl) (Nat.le_of_ble_eq_true rfl) (Nat.le_of_ble_eq_true rfl) (Nat.le_of_ble_eq_true rfl) ?_
          rintro _ _ ⟨rfl, rfl⟩
          show Wp none l Z "com/example/keyword_to_concept/keywordtoconcept/evaluation/RankedTopicAveragePrecisionPinLaw" "law" code maxLocals ret room_1 [(a93, oI "com/example/keyword_to_concept/keywordtoconcept/evaluation/RankedTopic" sg_1 [(.ref a88), (.int x92)]), (a88, oA .boolean [(1 : Int32), (1 : Int32)])] 2 4 133 #[.val (.int a), .val (.int b), .val (.int (2 : Int32)), .val (.int x2), .val (.int (1 : Int32)), .val (.int (1 : Int32)), .val (.int (0 : Int32)), .val (.ref a88), .val (.int x92), .val (.ref a93), .val (.double (0 : UInt64)), .second, .unset, .unset, .unset, .unset] [(.double (4611686018427387904 : UInt64))] Q_law
          refine wp_dstore #[.val (.int a), .val (.int b), .val (.int (2 : Int32)), .val (.int x2), .val (.int (1 : Int32)), .val (.int (1 : Int32)), .val (.int (0 : Int32)), .val (.ref a88), .val (.int x92), .val (.ref a93), .val (.double (0 : UInt64)), .second, .val (.double (4611686018427387904 : UInt64)), .second, .unset, .unset] D_133 rfl ?_
          refine wp_iload D_135 rfl ?_
          refine wp_if_ne D_137 (pc'' := 144) ⟨by decide, by decide⟩ (fun h95 => by exact absurd hR94 h95) (fun h95 => ?_)
          refine wp_dconst0 0 D_140 (by decide +kernel) ?_
          refine wp_goto D_141 (pc'' := 150) ⟨by decide, by decide⟩ ?_
          refine wp_dstore #[.val (.int a), .val (.int b), .val (.int (2 : Int32)), .val (.int x2), .val (.int (1 : Int32)), .val (.int (1 : Int32)), .val (.int (0 : Int32)), .val (.ref a88), .val (.int x92), .val (.ref a93), .val (.double (0 : UInt64)), .second, .val (.double (4611686018427387904 : UInt64)), .second, .val (.double (0 : UInt64)), .second] D_150 rfl ?_
          refine wp_dload D_152 rfl ?_
          refine wp_dload D_154 rfl ?_
          refine wp_dcmp (0 : Int32) D_156 (by decide +kernel) ?_
          refine wp_if_ne D_157 (pc'' := 164) ⟨by decide, by decide⟩ (fun h96 => by exact absurd h96 (by decide)) (fun h96 => ?_)
          refine wp_iconst 1 D_160 (by decide) ?_
          refine wp_goto D_161 (pc'' := 165) ⟨by decide, by decide⟩ ?_
          refine wp_ireturnN D_165 rfl (by simp) (by decide) (by decide) ?_
          exact rfl
        · rw [if_neg hR94]
          show Wp none l Z "com/example/keyword_to_concept/keywordtoconcept/evaluation/RankedTopicAveragePrecisionPinLaw" "law" code maxLocals ret room_1 [(a93, oI "com/example/keyword_to_concept/keywordtoconcept/evaluation/RankedTopic" sg_1 [(.ref a88), (.int x92)]), (a88, oA .boolean [(1 : Int32), (1 : Int32)])] 2 4 122 #[.val (.int a), .val (.int b), .val (.int (2 : Int32)), .val (.int x2), .val (.int (1 : Int32)), .val (.int (1 : Int32)), .val (.int (0 : Int32)), .val (.ref a88), .val (.int x92), .val (.ref a93), .unset, .unset, .unset, .unset, .unset, .unset] [(.double (FP.ddiv (4611686018427387904 : UInt64) (FP.i2d x92)))] Q_law
          refine wp_dstore #[.val (.int a), .val (.int b), .val (.int (2 : Int32)), .val (.int x2), .val (.int (1 : Int32)), .val (.int (1 : Int32)), .val (.int (0 : Int32)), .val (.ref a88), .val (.int x92), .val (.ref a93), .val (.double (FP.ddiv (4611686018427387904 : UInt64) (FP.i2d x92))), .second, .unset, .unset, .unset, .unset] D_122 rfl ?_
          refine wp_iload D_124 rfl ?_
          refine wp_iload D_126 rfl ?_
          refine wp_iload D_128 rfl ?_
          refine wp_callS (c_ps_110 l Z a0 hw [(a93, oI "com/example/keyword_to_concept/keywordtoconcept/evaluation/RankedTopic" sg_1 [(.ref a88), (.int x92)]), (a88, oA .boolean [(1 : Int32), (1 : Int32)])]) D_130 (hw _ (List.mem_of_getElem? (i := 20) rfl)) (hw _ (List.mem_of_getElem? (i := 21) rfl)) (hw _ (List.mem_of_getElem? (i := 22) rfl)) (hw _ (List.mem_of_getElem? (i := 23) rfl)) (by decide) pd_3 rfl rfl rfl (Nat.le_of_ble_eq_true rfl) (Nat.le_of_ble_eq_true rfl) (Nat.le_of_ble_eq_true rfl) (Nat.le_of_ble_eq_true rfl) ?_
          rintro _ _ ⟨rfl, rfl⟩
          show Wp none l Z "com/example/keyword_to_concept/keywordtoconcept/evaluation/RankedTopicAveragePrecisionPinLaw" "law" code maxLocals ret room_1 [(a93, oI "com/example/keyword_to_concept/keywordtoconcept/evaluation/RankedTopic" sg_1 [(.ref a88), (.int x92)]), (a88, oA .boolean [(1 : Int32), (1 : Int32)])] 2 4 133 #[.val (.int a), .val (.int b), .val (.int (2 : Int32)), .val (.int x2), .val (.int (1 : Int32)), .val (.int (1 : Int32)), .val (.int (0 : Int32)), .val (.ref a88), .val (.int x92), .val (.ref a93), .val (.double (FP.ddiv (4611686018427387904 : UInt64) (FP.i2d x92))), .second, .unset, .unset, .unset, .unset] [(.double (4611686018427387904 : UInt64))] Q_law
          refine wp_dstore #[.val (.int a), .val (.int b), .val (.int (2 : Int32)), .val (.int x2), .val (.int (1 : Int32)), .val (.int (1 : Int32)), .val (.int (0 : Int32)), .val (.ref a88), .val (.int x92), .val (.ref a93), .val (.double (FP.ddiv (4611686018427387904 : UInt64) (FP.i2d x92))), .second, .val (.double (4611686018427387904 : UInt64)), .second, .unset, .unset] D_133 rfl ?_
          refine wp_iload D_135 rfl ?_
          refine wp_if_ne D_137 (pc'' := 144) ⟨by decide, by decide⟩ (fun h97 => ?_) (fun h97 => by exact absurd h97 hR94)
          refine wp_dload D_144 rfl ?_
          refine wp_iload D_146 rfl ?_
          refine wp_i2d (FP.i2d x92) D_148 rfl ?_
          refine wp_ddiv (FP.ddiv (4611686018427387904 : UInt64) (FP.i2d x92)) D_149 (Jvm.Free.Fl.ddiv_out (by unfold Jvm.Free.Fl.NoNaN64; decide +kernel) (Jvm.Free.Fl.i2d_fin _) (Jvm.Free.Fl.i2d_nz hR94)) rfl ?_
          refine wp_dstore #[.val (.int a), .val (.int b), .val (.int (2 : Int32)), .val (.int x2), .val (.int (1 : Int32)), .val (.int (1 : Int32)), .val (.int (0 : Int32)), .val (.ref a88), .val (.int x92), .val (.ref a93), .val (.double (FP.ddiv (4611686018427387904 : UInt64) (FP.i2d x92))), .second, .val (.double (4611686018427387904 : UInt64)), .second, .val (.double (FP.ddiv (4611686018427387904 : UInt64) (FP.i2d x92))), .second] D_150 rfl ?_
          refine wp_dload D_152 rfl ?_
          refine wp_dload D_154 rfl ?_
          refine wp_dcmp (0 : Int32) D_156 (dcmpV_self (Jvm.Free.Fl.ddiv_out (by unfold Jvm.Free.Fl.NoNaN64; decide +kernel) (Jvm.Free.Fl.i2d_fin _) (Jvm.Free.Fl.i2d_nz hR94)) _) ?_
          refine wp_if_ne D_157 (pc'' := 164) ⟨by decide, by decide⟩ (fun h98 => by exact absurd h98 (by decide)) (fun h98 => ?_)
          refine wp_iconst 1 D_160 (by decide) ?_
          refine wp_goto D_161 (pc'' := 165) ⟨by decide, by decide⟩ ?_
          refine wp_ireturnN D_165 rfl (by simp) (by decide) (by decide) ?_
          exact rfl
  · subst hs_x1
    show Wp none l Z "com/example/keyword_to_concept/keywordtoconcept/evaluation/RankedTopicAveragePrecisionPinLaw" "law" code maxLocals ret room_1 [] 0 0 8 #[.val (.int a), .val (.int b), .val (.int (3 : Int32)), .val (.int x2), .unset, .unset, .unset, .unset, .unset, .unset, .unset, .unset, .unset, .unset, .unset, .unset] [] Q_law
    refine wp_iload_n D_8 rfl ?_
    refine wp_if_le D_9 (pc'' := 22) ⟨by decide, by decide⟩ (fun h99 => by exact absurd h99 (by decide)) (fun h99 => ?_)
    refine wp_iload_n D_12 rfl ?_
    refine wp_iconst 1 D_13 (by decide) ?_
    refine wp_iand D_14 ?_
    refine wp_if_eq D_15 (pc'' := 22) ⟨by decide, by decide⟩ (fun h100 => ?_) (fun h100 => ?_)
    · skip
      refine wp_iconst 0 D_22 (by decide) ?_
      refine wp_istore #[.val (.int a), .val (.int b), .val (.int (3 : Int32)), .val (.int x2), .val (.int (0 : Int32)), .unset, .unset, .unset, .unset, .unset, .unset, .unset, .unset, .unset, .unset, .unset] D_23 rfl ?_
      refine wp_iload_n D_25 rfl ?_
      refine wp_iconst 1 D_26 (by decide) ?_
      refine wp_icmp_le D_27 (pc'' := 40) ⟨by decide, by decide⟩ (fun h101 => by exact absurd h101 (by decide)) (fun h101 => ?_)
      refine wp_iload_n D_30 rfl ?_
      refine wp_iconst 2 D_31 (by decide) ?_
      refine wp_iand D_32 ?_
      refine wp_if_eq D_33 (pc'' := 40) ⟨by decide, by decide⟩ (fun h102 => ?_) (fun h102 => ?_)
      · skip
        refine wp_iconst 0 D_40 (by decide) ?_
        refine wp_istore #[.val (.int a), .val (.int b), .val (.int (3 : Int32)), .val (.int x2), .val (.int (0 : Int32)), .val (.int (0 : Int32)), .unset, .unset, .unset, .unset, .unset, .unset, .unset, .unset, .unset, .unset] D_41 rfl ?_
        refine wp_iload_n D_43 rfl ?_
        refine wp_iconst 2 D_44 (by decide) ?_
        refine wp_icmp_le D_45 (pc'' := 58) ⟨by decide, by decide⟩ (fun h103 => by exact absurd h103 (by decide)) (fun h103 => ?_)
        refine wp_iload_n D_48 rfl ?_
        refine wp_iconst 4 D_49 (by decide) ?_
        refine wp_iand D_50 ?_
        refine wp_if_eq D_51 (pc'' := 58) ⟨by decide, by decide⟩ (fun h104 => ?_) (fun h104 => ?_)
        · skip
          refine wp_iconst 0 D_58 (by decide) ?_
          refine wp_istore #[.val (.int a), .val (.int b), .val (.int (3 : Int32)), .val (.int x2), .val (.int (0 : Int32)), .val (.int (0 : Int32)), .val (.int (0 : Int32)), .unset, .unset, .unset, .unset, .unset, .unset, .unset, .unset, .unset] D_59 rfl ?_
          refine wp_iload_n D_61 rfl ?_
          refine wp_newarrayI (n := (3 : Int32)) (3) 3 D_62 rfl rfl rfl (hw _ (List.mem_of_getElem? (i := 0) rfl)) (by decide) (by decide) (by decide) (by decide) (by decide) (by decide) ?_
          intro a105
          show Wp none l Z "com/example/keyword_to_concept/keywordtoconcept/evaluation/RankedTopicAveragePrecisionPinLaw" "law" code maxLocals ret room_1 [(a105, oA .boolean [(0 : Int32), (0 : Int32), (0 : Int32)])] 1 3 64 #[.val (.int a), .val (.int b), .val (.int (3 : Int32)), .val (.int x2), .val (.int (0 : Int32)), .val (.int (0 : Int32)), .val (.int (0 : Int32)), .unset, .unset, .unset, .unset, .unset, .unset, .unset, .unset, .unset] [(.ref a105)] Q_law
          refine wp_astore #[.val (.int a), .val (.int b), .val (.int (3 : Int32)), .val (.int x2), .val (.int (0 : Int32)), .val (.int (0 : Int32)), .val (.int (0 : Int32)), .val (.ref a105), .unset, .unset, .unset, .unset, .unset, .unset, .unset, .unset] D_64 rfl rfl ?_
          refine wp_iload_n D_66 rfl ?_
          refine wp_if_le D_67 (pc'' := 76) ⟨by decide, by decide⟩ (fun h106 => by exact absurd h106 (by decide)) (fun h106 => ?_)
          refine wp_aload D_70 rfl rfl ?_
          refine wp_iconst 0 D_72 (by decide) ?_
          refine wp_iload D_73 rfl ?_
          refine wp_zastore (i := 0) (0) D_75 rfl (by decide) (by decide) (by first | decide | exact Nat.le_of_ble_eq_true rfl | simp) ?_
          rw [show (nar .boolean (0 : Int32)) = (0 : Int32) from by decide]
          show Wp none l Z "com/example/keyword_to_concept/keywordtoconcept/evaluation/RankedTopicAveragePrecisionPinLaw" "law" code maxLocals ret room_1 [(a105, oA .boolean [(0 : Int32), (0 : Int32), (0 : Int32)])] 1 3 76 #[.val (.int a), .val (.int b), .val (.int (3 : Int32)), .val (.int x2), .val (.int (0 : Int32)), .val (.int (0 : Int32)), .val (.int (0 : Int32)), .val (.ref a105), .unset, .unset, .unset, .unset, .unset, .unset, .unset, .unset] [] Q_law
          refine wp_iload_n D_76 rfl ?_
          refine wp_iconst 1 D_77 (by decide) ?_
          refine wp_icmp_le D_78 (pc'' := 87) ⟨by decide, by decide⟩ (fun h107 => by exact absurd h107 (by decide)) (fun h107 => ?_)
          refine wp_aload D_81 rfl rfl ?_
          refine wp_iconst 1 D_83 (by decide) ?_
          refine wp_iload D_84 rfl ?_
          refine wp_zastore (i := 0) (1) D_86 rfl (by decide) (by decide) (by first | decide | exact Nat.le_of_ble_eq_true rfl | simp) ?_
          rw [show (nar .boolean (0 : Int32)) = (0 : Int32) from by decide]
          show Wp none l Z "com/example/keyword_to_concept/keywordtoconcept/evaluation/RankedTopicAveragePrecisionPinLaw" "law" code maxLocals ret room_1 [(a105, oA .boolean [(0 : Int32), (0 : Int32), (0 : Int32)])] 1 3 87 #[.val (.int a), .val (.int b), .val (.int (3 : Int32)), .val (.int x2), .val (.int (0 : Int32)), .val (.int (0 : Int32)), .val (.int (0 : Int32)), .val (.ref a105), .unset, .unset, .unset, .unset, .unset, .unset, .unset, .unset] [] Q_law
          refine wp_iload_n D_87 rfl ?_
          refine wp_iconst 2 D_88 (by decide) ?_
          refine wp_icmp_le D_89 (pc'' := 98) ⟨by decide, by decide⟩ (fun h108 => by exact absurd h108 (by decide)) (fun h108 => ?_)
          refine wp_aload D_92 rfl rfl ?_
          refine wp_iconst 2 D_94 (by decide) ?_
          refine wp_iload D_95 rfl ?_
          refine wp_zastore (i := 0) (2) D_97 rfl (by decide) (by decide) (by first | decide | exact Nat.le_of_ble_eq_true rfl | simp) ?_
          rw [show (nar .boolean (0 : Int32)) = (0 : Int32) from by decide]
          show Wp none l Z "com/example/keyword_to_concept/keywordtoconcept/evaluation/RankedTopicAveragePrecisionPinLaw" "law" code maxLocals ret room_1 [(a105, oA .boolean [(0 : Int32), (0 : Int32), (0 : Int32)])] 1 3 98 #[.val (.int a), .val (.int b), .val (.int (3 : Int32)), .val (.int x2), .val (.int (0 : Int32)), .val (.int (0 : Int32)), .val (.int (0 : Int32)), .val (.ref a105), .unset, .unset, .unset, .unset, .unset, .unset, .unset, .unset] [] Q_law
          refine wp_iload_n D_98 rfl ?_
          refine wp_ldcI D_99 (hw _ (List.mem_of_getElem? (i := 1) rfl)) ?_
          refine wp_iand D_101 ?_
          generalize hg_x109 : (b &&& (2147483647 : Int32)) = x109
          refine wp_istore #[.val (.int a), .val (.int b), .val (.int (3 : Int32)), .val (.int x2), .val (.int (0 : Int32)), .val (.int (0 : Int32)), .val (.int (0 : Int32)), .val (.ref a105), .val (.int x109), .unset, .unset, .unset, .unset, .unset, .unset, .unset] D_102 rfl ?_
          refine wp_new sg_1 [(.null), (.int (0 : Int32))] D_104 (hw _ (List.mem_of_getElem? (i := 2) rfl)) (hw _ (List.mem_of_getElem? (i := 3) rfl)) (hw _ (List.mem_of_getElem? (i := 4) rfl)) (laid_sg_1 l Z a0 hw) (by decide) dfl_sg_1 (by decide) (by decide) ?_
          intro a110
          show Wp none l Z "com/example/keyword_to_concept/keywordtoconcept/evaluation/RankedTopicAveragePrecisionPinLaw" "law" code maxLocals ret room_1 [(a110, oI "com/example/keyword_to_concept/keywordtoconcept/evaluation/RankedTopic" sg_1 [(.null), (.int (0 : Int32))]), (a105, oA .boolean [(0 : Int32), (0 : Int32), (0 : Int32)])] 2 5 107 #[.val (.int a), .val (.int b), .val (.int (3 : Int32)), .val (.int x2), .val (.int (0 : Int32)), .val (.int (0 : Int32)), .val (.int (0 : Int32)), .val (.ref a105), .val (.int x109), .unset, .unset, .unset, .unset, .unset, .unset, .unset] [(.ref a110)] Q_law
          refine wp_dup D_107 rfl ?_
          refine wp_aload D_108 rfl rfl ?_
          refine wp_iload D_110 rfl ?_
          refine wp_init (c_ini l Z a0 hw a110 a105 x109 [(a105, oA .boolean [(0 : Int32), (0 : Int32), (0 : Int32)])]) D_112 rfl (hw _ (List.mem_of_getElem? (i := 5) rfl)) (hw _ (List.mem_of_getElem? (i := 6) rfl)) (hw _ (List.mem_of_getElem? (i := 4) rfl)) (hw _ (List.mem_of_getElem? (i := 7) rfl)) (by decide) pd_1 rfl rfl rfl (Nat.le_of_ble_eq_true rfl) (Nat.le_of_ble_eq_true rfl) (Nat.le_of_ble_eq_true rfl) (Nat.le_of_ble_eq_true rfl) ?_
          rintro _ _ ⟨rfl, rfl⟩
          show Wp none l Z "com/example/keyword_to_concept/keywordtoconcept/evaluation/RankedTopicAveragePrecisionPinLaw" "law" code maxLocals ret room_1 [(a110, oI "com/example/keyword_to_concept/keywordtoconcept/evaluation/RankedTopic" sg_1 [(.ref a105), (.int x109)]), (a105, oA .boolean [(0 : Int32), (0 : Int32), (0 : Int32)])] 2 5 115 #[.val (.int a), .val (.int b), .val (.int (3 : Int32)), .val (.int x2), .val (.int (0 : Int32)), .val (.int (0 : Int32)), .val (.int (0 : Int32)), .val (.ref a105), .val (.int x109), .unset, .unset, .unset, .unset, .unset, .unset, .unset] [(.ref a110)] Q_law
          refine wp_astore #[.val (.int a), .val (.int b), .val (.int (3 : Int32)), .val (.int x2), .val (.int (0 : Int32)), .val (.int (0 : Int32)), .val (.int (0 : Int32)), .val (.ref a105), .val (.int x109), .val (.ref a110), .unset, .unset, .unset, .unset, .unset, .unset] D_115 rfl rfl ?_
          refine wp_aload D_117 rfl rfl ?_
          refine wp_virtual (c_ap_000 l Z a0 hw a110 a105 x109 []) (exa_new (i := 0) rfl) D_119 (hw _ (List.mem_of_getElem? (i := 15) rfl)) (hw _ (List.mem_of_getElem? (i := 16) rfl)) (hw _ (List.mem_of_getElem? (i := 18) rfl)) (hw _ (List.mem_of_getElem? (i := 18) rfl)) (hw _ (List.mem_of_getElem? (i := 17) rfl)) (hw _ (List.mem_of_getElem? (i := 4) rfl)) (hw _ (List.mem_of_getElem? (i := 19) rfl)) (by decide) pd_2 rfl rfl rfl (Nat.le_of_ble_eq_true rfl) (Nat.le_of_ble_eq_true rfl) (Nat.le_of_ble_eq_true rfl) (Nat.le_of_ble_eq_true rfl) ?_
          rintro _ _ ⟨rfl, rfl⟩
          by_cases hR111 : x109 = 0
          · rw [if_pos hR111]
            show Wp none l Z "com/example/keyword_to_concept/keywordtoconcept/evaluation/RankedTopicAveragePrecisionPinLaw" "law" code maxLocals ret room_1 [(a110, oI "com/example/keyword_to_concept/keywordtoconcept/evaluation/RankedTopic" sg_1 [(.ref a105), (.int x109)]), (a105, oA .boolean [(0 : Int32), (0 : Int32), (0 : Int32)])] 2 5 122 #[.val (.int a), .val (.int b), .val (.int (3 : Int32)), .val (.int x2), .val (.int (0 : Int32)), .val (.int (0 : Int32)), .val (.int (0 : Int32)), .val (.ref a105), .val (.int x109), .val (.ref a110), .unset, .unset, .unset, .unset, .unset, .unset] [(.double (0 : UInt64))] Q_law
            refine wp_dstore #[.val (.int a), .val (.int b), .val (.int (3 : Int32)), .val (.int x2), .val (.int (0 : Int32)), .val (.int (0 : Int32)), .val (.int (0 : Int32)), .val (.ref a105), .val (.int x109), .val (.ref a110), .val (.double (0 : UInt64)), .second, .unset, .unset, .unset, .unset] D_122 rfl ?_
            refine wp_iload D_124 rfl ?_
            refine wp_iload D_126 rfl ?_
            refine wp_iload D_128 rfl ?_
            refine wp_callS (c_ps_000 l Z a0 hw [(a110, oI "com/example/keyword_to_concept/keywordtoconcept/evaluation/RankedTopic" sg_1 [(.ref a105), (.int x109)]), (a105, oA .boolean [(0 : Int32), (0 : Int32), (0 : Int32)])]) D_130 (hw _ (List.mem_of_getElem? (i := 20) rfl)) (hw _ (List.mem_of_getElem? (i := 21) rfl)) (hw _ (List.mem_of_getElem? (i := 22) rfl)) (hw _ (List.mem_of_getElem? (i := 23) rfl)) (by decide) pd_3 rfl rfl rfl (Nat.le_of_ble_eq_true rfl) (Nat.le_of_ble_eq_true rfl) (Nat.le_of_ble_eq_true rfl) (Nat.le_of_ble_eq_true rfl) ?_
            rintro _ _ ⟨rfl, rfl⟩
            show Wp none l Z "com/example/keyword_to_concept/keywordtoconcept/evaluation/RankedTopicAveragePrecisionPinLaw" "law" code maxLocals ret room_1 [(a110, oI "com/example/keyword_to_concept/keywordtoconcept/evaluation/RankedTopic" sg_1 [(.ref a105), (.int x109)]), (a105, oA .boolean [(0 : Int32), (0 : Int32), (0 : Int32)])] 2 5 133 #[.val (.int a), .val (.int b), .val (.int (3 : Int32)), .val (.int x2), .val (.int (0 : Int32)), .val (.int (0 : Int32)), .val (.int (0 : Int32)), .val (.ref a105), .val (.int x109), .val (.ref a110), .val (.double (0 : UInt64)), .second, .unset, .unset, .unset, .unset] [(.double (0 : UInt64))] Q_law
            refine wp_dstore #[.val (.int a), .val (.int b), .val (.int (3 : Int32)), .val (.int x2), .val (.int (0 : Int32)), .val (.int (0 : Int32)), .val (.int (0 : Int32)), .val (.ref a105), .val (.int x109), .val (.ref a110), .val (.double (0 : UInt64)), .second, .val (.double (0 : UInt64)), .second, .unset, .unset] D_133 rfl ?_
            refine wp_iload D_135 rfl ?_
            refine wp_if_ne D_137 (pc'' := 144) ⟨by decide, by decide⟩ (fun h112 => by exact absurd hR111 h112) (fun h112 => ?_)
            refine wp_dconst0 0 D_140 (by decide +kernel) ?_
            refine wp_goto D_141 (pc'' := 150) ⟨by decide, by decide⟩ ?_
            refine wp_dstore #[.val (.int a), .val (.int b), .val (.int (3 : Int32)), .val (.int x2), .val (.int (0 : Int32)), .val (.int (0 : Int32)), .val (.int (0 : Int32)), .val (.ref a105), .val (.int x109), .val (.ref a110), .val (.double (0 : UInt64)), .second, .val (.double (0 : UInt64)), .second, .val (.double (0 : UInt64)), .second] D_150 rfl ?_
            refine wp_dload D_152 rfl ?_
            refine wp_dload D_154 rfl ?_
            refine wp_dcmp (0 : Int32) D_156 (by decide +kernel) ?_
            refine wp_if_ne D_157 (pc'' := 164) ⟨by decide, by decide⟩ (fun h113 => by exact absurd h113 (by decide)) (fun h113 => ?_)
            refine wp_iconst 1 D_160 (by decide) ?_
            refine wp_goto D_161 (pc'' := 165) ⟨by decide, by decide⟩ ?_
            refine wp_ireturnN D_165 rfl (by simp) (by decide) (by decide) ?_
            exact rfl
          · rw [if_neg hR111]
            show Wp none l Z "com/example/keyword_to_concept/keywordtoconcept/evaluation/RankedTopicAveragePrecisionPinLaw" "law" code maxLocals ret room_1 [(a110, oI "com/example/keyword_to_concept/keywordtoconcept/evaluation/RankedTopic" sg_1 [(.ref a105), (.int x109)]), (a105, oA .boolean [(0 : Int32), (0 : Int32), (0 : Int32)])] 2 5 122 #[.val (.int a), .val (.int b), .val (.int (3 : Int32)), .val (.int x2), .val (.int (0 : Int32)), .val (.int (0 : Int32)), .val (.int (0 : Int32)), .val (.ref a105), .val (.int x109), .val (.ref a110), .unset, .unset, .unset, .unset, .unset, .unset] [(.double (FP.ddiv (0 : UInt64) (FP.i2d x109)))] Q_law
            refine wp_dstore #[.val (.int a), .val (.int b), .val (.int (3 : Int32)), .val (.int x2), .val (.int (0 : Int32)), .val (.int (0 : Int32)), .val (.int (0 : Int32)), .val (.ref a105), .val (.int x109), .val (.ref a110), .val (.double (FP.ddiv (0 : UInt64) (FP.i2d x109))), .second, .unset, .unset, .unset, .unset] D_122 rfl ?_
            refine wp_iload D_124 rfl ?_
            refine wp_iload D_126 rfl ?_
            refine wp_iload D_128 rfl ?_
            refine wp_callS (c_ps_000 l Z a0 hw [(a110, oI "com/example/keyword_to_concept/keywordtoconcept/evaluation/RankedTopic" sg_1 [(.ref a105), (.int x109)]), (a105, oA .boolean [(0 : Int32), (0 : Int32), (0 : Int32)])]) D_130 (hw _ (List.mem_of_getElem? (i := 20) rfl)) (hw _ (List.mem_of_getElem? (i := 21) rfl)) (hw _ (List.mem_of_getElem? (i := 22) rfl)) (hw _ (List.mem_of_getElem? (i := 23) rfl)) (by decide) pd_3 rfl rfl rfl (Nat.le_of_ble_eq_true rfl) (Nat.le_of_ble_eq_true rfl) (Nat.le_of_ble_eq_true rfl) (Nat.le_of_ble_eq_true rfl) ?_
            rintro _ _ ⟨rfl, rfl⟩
            show Wp none l Z "com/example/keyword_to_concept/keywordtoconcept/evaluation/RankedTopicAveragePrecisionPinLaw" "law" code maxLocals ret room_1 [(a110, oI "com/example/keyword_to_concept/keywordtoconcept/evaluation/RankedTopic" sg_1 [(.ref a105), (.int x109)]), (a105, oA .boolean [(0 : Int32), (0 : Int32), (0 : Int32)])] 2 5 133 #[.val (.int a), .val (.int b), .val (.int (3 : Int32)), .val (.int x2), .val (.int (0 : Int32)), .val (.int (0 : Int32)), .val (.int (0 : Int32)), .val (.ref a105), .val (.int x109), .val (.ref a110), .val (.double (FP.ddiv (0 : UInt64) (FP.i2d x109))), .second, .unset, .unset, .unset, .unset] [(.double (0 : UInt64))] Q_law
            refine wp_dstore #[.val (.int a), .val (.int b), .val (.int (3 : Int32)), .val (.int x2), .val (.int (0 : Int32)), .val (.int (0 : Int32)), .val (.int (0 : Int32)), .val (.ref a105), .val (.int x109), .val (.ref a110), .val (.double (FP.ddiv (0 : UInt64) (FP.i2d x109))), .second, .val (.double (0 : UInt64)), .second, .unset, .unset] D_133 rfl ?_
            refine wp_iload D_135 rfl ?_
            refine wp_if_ne D_137 (pc'' := 144) ⟨by decide, by decide⟩ (fun h114 => ?_) (fun h114 => by exact absurd h114 hR111)
            refine wp_dload D_144 rfl ?_
            refine wp_iload D_146 rfl ?_
            refine wp_i2d (FP.i2d x109) D_148 rfl ?_
            refine wp_ddiv (FP.ddiv (0 : UInt64) (FP.i2d x109)) D_149 (Jvm.Free.Fl.ddiv_out (by unfold Jvm.Free.Fl.NoNaN64; decide +kernel) (Jvm.Free.Fl.i2d_fin _) (Jvm.Free.Fl.i2d_nz hR111)) rfl ?_
            refine wp_dstore #[.val (.int a), .val (.int b), .val (.int (3 : Int32)), .val (.int x2), .val (.int (0 : Int32)), .val (.int (0 : Int32)), .val (.int (0 : Int32)), .val (.ref a105), .val (.int x109), .val (.ref a110), .val (.double (FP.ddiv (0 : UInt64) (FP.i2d x109))), .second, .val (.double (0 : UInt64)), .second, .val (.double (FP.ddiv (0 : UInt64) (FP.i2d x109))), .second] D_150 rfl ?_
            refine wp_dload D_152 rfl ?_
            refine wp_dload D_154 rfl ?_
            refine wp_dcmp (0 : Int32) D_156 (dcmpV_self (Jvm.Free.Fl.ddiv_out (by unfold Jvm.Free.Fl.NoNaN64; decide +kernel) (Jvm.Free.Fl.i2d_fin _) (Jvm.Free.Fl.i2d_nz hR111)) _) ?_
            refine wp_if_ne D_157 (pc'' := 164) ⟨by decide, by decide⟩ (fun h115 => by exact absurd h115 (by decide)) (fun h115 => ?_)
            refine wp_iconst 1 D_160 (by decide) ?_
            refine wp_goto D_161 (pc'' := 165) ⟨by decide, by decide⟩ ?_
            refine wp_ireturnN D_165 rfl (by simp) (by decide) (by decide) ?_
            exact rfl
        · skip
          refine wp_iconst 1 D_54 (by decide) ?_
          refine wp_goto D_55 (pc'' := 59) ⟨by decide, by decide⟩ ?_
          refine wp_istore #[.val (.int a), .val (.int b), .val (.int (3 : Int32)), .val (.int x2), .val (.int (0 : Int32)), .val (.int (0 : Int32)), .val (.int (1 : Int32)), .unset, .unset, .unset, .unset, .unset, .unset, .unset, .unset, .unset] D_59 rfl ?_
          refine wp_iload_n D_61 rfl ?_
          refine wp_newarrayI (n := (3 : Int32)) (3) 3 D_62 rfl rfl rfl (hw _ (List.mem_of_getElem? (i := 0) rfl)) (by decide) (by decide) (by decide) (by decide) (by decide) (by decide) ?_
          intro a116
          show Wp none l Z "com/example/keyword_to_concept/keywordtoconcept/evaluation/RankedTopicAveragePrecisionPinLaw" "law" code maxLocals ret room_1 [(a116, oA .boolean [(0 : Int32), (0 : Int32), (0 : Int32)])] 1 3 64 #[.val (.int a), .val (.int b), .val (.int (3 : Int32)), .val (.int x2), .val (.int (0 : Int32)), .val (.int (0 : Int32)), .val (.int (1 : Int32)), .unset, .unset, .unset, .unset, .unset, .unset, .unset, .unset, .unset] [(.ref a116)] Q_law
          refine wp_astore #[.val (.int a), .val (.int b), .val (.int (3 : Int32)), .val (.int x2), .val (.int (0 : Int32)), .val (.int (0 : Int32)), .val (.int (1 : Int32)), .val (.ref a116), .unset, .unset, .unset, .unset, .unset, .unset, .unset, .unset] D_64 rfl rfl ?_
          refine wp_iload_n D_66 rfl ?_
          refine wp_if_le D_67 (pc'' := 76) ⟨by decide, by decide⟩ (fun h117 => by exact absurd h117 (by decide)) (fun h117 => ?_)
          refine wp_aload D_70 rfl rfl ?_
          refine wp_iconst 0 D_72 (by decide) ?_
          refine wp_iload D_73 rfl ?_
          refine wp_zastore (i := 0) (0) D_75 rfl (by decide) (by decide) (by first | decide | exact Nat.le_of_ble_eq_true rfl | simp) ?_
          rw [show (nar .boolean (0 : Int32)) = (0 : Int32) from by decide]
          show Wp none l Z "com/example/keyword_to_concept/keywordtoconcept/evaluation/RankedTopicAveragePrecisionPinLaw" "law" code maxLocals ret room_1 [(a116, oA .boolean [(0 : Int32), (0 : Int32), (0 : Int32)])] 1 3 76 #[.val (.int a), .val (.int b), .val (.int (3 : Int32)), .val (.int x2), .val (.int (0 : Int32)), .val (.int (0 : Int32)), .val (.int (1 : Int32)), .val (.ref a116), .unset, .unset, .unset, .unset, .unset, .unset, .unset, .unset] [] Q_law
          refine wp_iload_n D_76 rfl ?_
          refine wp_iconst 1 D_77 (by decide) ?_
          refine wp_icmp_le D_78 (pc'' := 87) ⟨by decide, by decide⟩ (fun h118 => by exact absurd h118 (by decide)) (fun h118 => ?_)
          refine wp_aload D_81 rfl rfl ?_
          refine wp_iconst 1 D_83 (by decide) ?_
          refine wp_iload D_84 rfl ?_
          refine wp_zastore (i := 0) (1) D_86 rfl (by decide) (by decide) (by first | decide | exact Nat.le_of_ble_eq_true rfl | simp) ?_
          rw [show (nar .boolean (0 : Int32)) = (0 : Int32) from by decide]
          show Wp none l Z "com/example/keyword_to_concept/keywordtoconcept/evaluation/RankedTopicAveragePrecisionPinLaw" "law" code maxLocals ret room_1 [(a116, oA .boolean [(0 : Int32), (0 : Int32), (0 : Int32)])] 1 3 87 #[.val (.int a), .val (.int b), .val (.int (3 : Int32)), .val (.int x2), .val (.int (0 : Int32)), .val (.int (0 : Int32)), .val (.int (1 : Int32)), .val (.ref a116), .unset, .unset, .unset, .unset, .unset, .unset, .unset, .unset] [] Q_law
          refine wp_iload_n D_87 rfl ?_
          refine wp_iconst 2 D_88 (by decide) ?_
          refine wp_icmp_le D_89 (pc'' := 98) ⟨by decide, by decide⟩ (fun h119 => by exact absurd h119 (by decide)) (fun h119 => ?_)
          refine wp_aload D_92 rfl rfl ?_
          refine wp_iconst 2 D_94 (by decide) ?_
          refine wp_iload D_95 rfl ?_
          refine wp_zastore (i := 0) (2) D_97 rfl (by decide) (by decide) (by first | decide | exact Nat.le_of_ble_eq_true rfl | simp) ?_
          rw [show (nar .boolean (1 : Int32)) = (1 : Int32) from by decide]
          show Wp none l Z "com/example/keyword_to_concept/keywordtoconcept/evaluation/RankedTopicAveragePrecisionPinLaw" "law" code maxLocals ret room_1 [(a116, oA .boolean [(0 : Int32), (0 : Int32), (1 : Int32)])] 1 3 98 #[.val (.int a), .val (.int b), .val (.int (3 : Int32)), .val (.int x2), .val (.int (0 : Int32)), .val (.int (0 : Int32)), .val (.int (1 : Int32)), .val (.ref a116), .unset, .unset, .unset, .unset, .unset, .unset, .unset, .unset] [] Q_law
          refine wp_iload_n D_98 rfl ?_
          refine wp_ldcI D_99 (hw _ (List.mem_of_getElem? (i := 1) rfl)) ?_
          refine wp_iand D_101 ?_
          generalize hg_x120 : (b &&& (2147483647 : Int32)) = x120
          refine wp_istore #[.val (.int a), .val (.int b), .val (.int (3 : Int32)), .val (.int x2), .val (.int (0 : Int32)), .val (.int (0 : Int32)), .val (.int (1 : Int32)), .val (.ref a116), .val (.int x120), .unset, .unset, .unset, .unset, .unset, .unset, .unset] D_102 rfl ?_
          refine wp_new sg_1 [(.null), (.int (0 : Int32))] D_104 (hw _ (List.mem_of_getElem? (i := 2) rfl)) (hw _ (List.mem_of_getElem? (i := 3) rfl)) (hw _ (List.mem_of_getElem? (i := 4) rfl)) (laid_sg_1 l Z a0 hw) (by decide) dfl_sg_1 (by decide) (by decide) ?_
          intro a121
          show Wp none l Z "com/example/keyword_to_concept/keywordtoconcept/evaluation/RankedTopicAveragePrecisionPinLaw" "law" code maxLocals ret room_1 [(a121, oI "com/example/keyword_to_concept/keywordtoconcept/evaluation/RankedTopic" sg_1 [(.null), (.int (0 : Int32))]), (a116, oA .boolean [(0 : Int32), (0 : Int32), (1 : Int32)])] 2 5 107 #[.val (.int a), .val (.int b), .val (.int (3 : Int32)), .val (.int x2), .val (.int (0 : Int32)), .val (.int (0 : Int32)), .val (.int (1 : Int32)), .val (.ref a116), .val (.int x120), .unset, .unset, .unset, .unset, .unset, .unset, .unset] [(.ref a121)] Q_law
          refine wp_dup D_107 rfl ?_
          refine wp_aload D_108 rfl rfl ?_
          refine wp_iload D_110 rfl ?_
          refine wp_init (c_ini l Z a0 hw a121 a116 x120 [(a116, oA .boolean [(0 : Int32), (0 : Int32), (1 : Int32)])]) D_112 rfl (hw _ (List.mem_of_getElem? (i := 5) rfl)) (hw _ (List.mem_of_getElem? (i := 6) rfl)) (hw _ (List.mem_of_getElem? (i := 4) rfl)) (hw _ (List.mem_of_getElem? (i := 7) rfl)) (by decide) pd_1 rfl rfl rfl (Nat.le_of_ble_eq_true rfl) (Nat.le_of_ble_eq_true rfl) (Nat.le_of_ble_eq_true rfl) (Nat.le_of_ble_eq_true rfl) ?_
          rintro _ _ ⟨rfl, rfl⟩
          show Wp none l Z "com/example/keyword_to_concept/keywordtoconcept/evaluation/RankedTopicAveragePrecisionPinLaw" "law" code maxLocals ret room_1 [(a121, oI "com/example/keyword_to_concept/keywordtoconcept/evaluation/RankedTopic" sg_1 [(.ref a116), (.int x120)]), (a116, oA .boolean [(0 : Int32), (0 : Int32), (1 : Int32)])] 2 5 115 #[.val (.int a), .val (.int b), .val (.int (3 : Int32)), .val (.int x2), .val (.int (0 : Int32)), .val (.int (0 : Int32)), .val (.int (1 : Int32)), .val (.ref a116), .val (.int x120), .unset, .unset, .unset, .unset, .unset, .unset, .unset] [(.ref a121)] Q_law
          refine wp_astore #[.val (.int a), .val (.int b), .val (.int (3 : Int32)), .val (.int x2), .val (.int (0 : Int32)), .val (.int (0 : Int32)), .val (.int (1 : Int32)), .val (.ref a116), .val (.int x120), .val (.ref a121), .unset, .unset, .unset, .unset, .unset, .unset] D_115 rfl rfl ?_
          refine wp_aload D_117 rfl rfl ?_
          refine wp_virtual (c_ap_001 l Z a0 hw a121 a116 x120 []) (exa_new (i := 0) rfl) D_119 (hw _ (List.mem_of_getElem? (i := 15) rfl)) (hw _ (List.mem_of_getElem? (i := 16) rfl)) (hw _ (List.mem_of_getElem? (i := 18) rfl)) (hw _ (List.mem_of_getElem? (i := 18) rfl)) (hw _ (List.mem_of_getElem? (i := 17) rfl)) (hw _ (List.mem_of_getElem? (i := 4) rfl)) (hw _ (List.mem_of_getElem? (i := 19) rfl)) (by decide) pd_2 rfl rfl rfl (Nat.le_of_ble_eq_true rfl) (Nat.le_of_ble_eq_true rfl) (Nat.le_of_ble_eq_true rfl) (Nat.le_of_ble_eq_true rfl) ?_
          rintro _ _ ⟨rfl, rfl⟩
          by_cases hR122 : x120 = 0
          · rw [if_pos hR122]
            show Wp none l Z "com/example/keyword_to_concept/keywordtoconcept/evaluation/RankedTopicAveragePrecisionPinLaw" "law" code maxLocals ret room_1 [(a121, oI "com/example/keyword_to_concept/keywordtoconcept/evaluation/RankedTopic" sg_1 [(.ref a116), (.int x120)]), (a116, oA .boolean [(0 : Int32), (0 : Int32), (1 : Int32)])] 2 5 122 #[.val (.int a), .val (.int b), .val (.int (3 : Int32)), .val (.int x2), .val (.int (0 : Int32)), .val (.int (0 : Int32)), .val (.int (1 : Int32)), .val (.ref a116), .val (.int x120), .val (.ref a121), .unset, .unset, .unset, .unset, .unset, .unset] [(.double (0 : UInt64))] Q_law
            refine wp_dstore #[.val (.int a), .val (.int b), .val (.int (3 : Int32)), .val (.int x2), .val (.int (0 : Int32)), .val (.int (0 : Int32)), .val (.int (1 : Int32)), .val (.ref a116), .val (.int x120), .val (.ref a121), .val (.double (0 : UInt64)), .second, .unset, .unset, .unset, .unset] D_122 rfl ?_
            refine wp_iload D_124 rfl ?_
            refine wp_iload D_126 rfl ?_
            refine wp_iload D_128 rfl ?_
            refine wp_callS (c_ps_001 l Z a0 hw [(a121, oI "com/example/keyword_to_concept/keywordtoconcept/evaluation/RankedTopic" sg_1 [(.ref a116), (.int x120)]), (a116, oA .boolean [(0 : Int32), (0 : Int32), (1 : Int32)])]) D_130 (hw _ (List.mem_of_getElem? (i := 20) rfl)) (hw _ (List.mem_of_getElem? (i := 21) rfl)) (hw _ (List.mem_of_getElem? (i := 22) rfl)) (hw _ (List.mem_of_getElem? (i := 23) rfl)) (by decide) pd_3 rfl rfl rfl (Nat.le_of_ble_eq_true rfl) (Nat.le_of_ble_eq_true rfl) (Nat.le_of_ble_eq_true rfl) (Nat.le_of_ble_eq_true rfl) ?_
            rintro _ _ ⟨rfl, rfl⟩
            show Wp none l Z "com/example/keyword_to_concept/keywordtoconcept/evaluation/RankedTopicAveragePrecisionPinLaw" "law" code maxLocals ret room_1 [(a121, oI "com/example/keyword_to_concept/keywordtoconcept/evaluation/RankedTopic" sg_1 [(.ref a116), (.int x120)]), (a116, oA .boolean [(0 : Int32), (0 : Int32), (1 : Int32)])] 2 5 133 #[.val (.int a), .val (.int b), .val (.int (3 : Int32)), .val (.int x2), .val (.int (0 : Int32)), .val (.int (0 : Int32)), .val (.int (1 : Int32)), .val (.ref a116), .val (.int x120), .val (.ref a121), .val (.double (0 : UInt64)), .second, .unset, .unset, .unset, .unset] [(.double (4599676419421066581 : UInt64))] Q_law
            refine wp_dstore #[.val (.int a), .val (.int b), .val (.int (3 : Int32)), .val (.int x2), .val (.int (0 : Int32)), .val (.int (0 : Int32)), .val (.int (1 : Int32)), .val (.ref a116), .val (.int x120), .val (.ref a121), .val (.double (0 : UInt64)), .second, .val (.double (4599676419421066581 : UInt64)), .second, .unset, .unset] D_133 rfl ?_
            refine wp_iload D_135 rfl ?_
            refine wp_if_ne D_137 (pc'' := 144) ⟨by decide, by decide⟩ (fun h123 => by exact absurd hR122 h123) (fun h123 => ?_)
            refine wp_dconst0 0 D_140 (by decide +kernel) ?_
            refine wp_goto D_141 (pc'' := 150) ⟨by decide, by decide⟩ ?_
            refine wp_dstore #[.val (.int a), .val (.int b), .val (.int (3 : Int32)), .val (.int x2), .val (.int (0 : Int32)), .val (.int (0 : Int32)), .val (.int (1 : Int32)), .val (.ref a116), .val (.int x120), .val (.ref a121), .val (.double (0 : UInt64)), .second, .val (.double (4599676419421066581 : UInt64)), .second, .val (.double (0 : UInt64)), .second] D_150 rfl ?_
            refine wp_dload D_152 rfl ?_
            refine wp_dload D_154 rfl ?_
            refine wp_dcmp (0 : Int32) D_156 (by decide +kernel) ?_
            refine wp_if_ne D_157 (pc'' := 164) ⟨by decide, by decide⟩ (fun h124 => by exact absurd h124 (by decide)) (fun h124 => ?_)
            refine wp_iconst 1 D_160 (by decide) ?_
            refine wp_goto D_161 (pc'' := 165) ⟨by decide, by decide⟩ ?_
            refine wp_ireturnN D_165 rfl (by simp) (by decide) (by decide) ?_
            exact rfl
          · rw [if_neg hR122]
            show Wp none l Z "com/example/keyword_to_concept/keywordtoconcept/evaluation/RankedTopicAveragePrecisionPinLaw" "law" code maxLocals ret room_1 [(a121, oI "com/example/keyword_to_concept/keywordtoconcept/evaluation/RankedTopic" sg_1 [(.ref a116), (.int x120)]), (a116, oA .boolean [(0 : Int32), (0 : Int32), (1 : Int32)])] 2 5 122 #[.val (.int a), .val (.int b), .val (.int (3 : Int32)), .val (.int x2), .val (.int (0 : Int32)), .val (.int (0 : Int32)), .val (.int (1 : Int32)), .val (.ref a116), .val (.int x120), .val (.ref a121), .unset, .unset, .unset, .unset, .unset, .unset] [(.double (FP.ddiv (4599676419421066581 : UInt64) (FP.i2d x120)))] Q_law
            refine wp_dstore #[.val (.int a), .val (.int b), .val (.int (3 : Int32)), .val (.int x2), .val (.int (0 : Int32)), .val (.int (0 : Int32)), .val (.int (1 : Int32)), .val (.ref a116), .val (.int x120), .val (.ref a121), .val (.double (FP.ddiv (4599676419421066581 : UInt64) (FP.i2d x120))), .second, .unset, .unset, .unset, .unset] D_122 rfl ?_
            refine wp_iload D_124 rfl ?_
            refine wp_iload D_126 rfl ?_
            refine wp_iload D_128 rfl ?_
            refine wp_callS (c_ps_001 l Z a0 hw [(a121, oI "com/example/keyword_to_concept/keywordtoconcept/evaluation/RankedTopic" sg_1 [(.ref a116), (.int x120)]), (a116, oA .boolean [(0 : Int32), (0 : Int32), (1 : Int32)])]) D_130 (hw _ (List.mem_of_getElem? (i := 20) rfl)) (hw _ (List.mem_of_getElem? (i := 21) rfl)) (hw _ (List.mem_of_getElem? (i := 22) rfl)) (hw _ (List.mem_of_getElem? (i := 23) rfl)) (by decide) pd_3 rfl rfl rfl (Nat.le_of_ble_eq_true rfl) (Nat.le_of_ble_eq_true rfl) (Nat.le_of_ble_eq_true rfl) (Nat.le_of_ble_eq_true rfl) ?_
            rintro _ _ ⟨rfl, rfl⟩
            show Wp none l Z "com/example/keyword_to_concept/keywordtoconcept/evaluation/RankedTopicAveragePrecisionPinLaw" "law" code maxLocals ret room_1 [(a121, oI "com/example/keyword_to_concept/keywordtoconcept/evaluation/RankedTopic" sg_1 [(.ref a116), (.int x120)]), (a116, oA .boolean [(0 : Int32), (0 : Int32), (1 : Int32)])] 2 5 133 #[.val (.int a), .val (.int b), .val (.int (3 : Int32)), .val (.int x2), .val (.int (0 : Int32)), .val (.int (0 : Int32)), .val (.int (1 : Int32)), .val (.ref a116), .val (.int x120), .val (.ref a121), .val (.double (FP.ddiv (4599676419421066581 : UInt64) (FP.i2d x120))), .second, .unset, .unset, .unset, .unset] [(.double (4599676419421066581 : UInt64))] Q_law
            refine wp_dstore #[.val (.int a), .val (.int b), .val (.int (3 : Int32)), .val (.int x2), .val (.int (0 : Int32)), .val (.int (0 : Int32)), .val (.int (1 : Int32)), .val (.ref a116), .val (.int x120), .val (.ref a121), .val (.double (FP.ddiv (4599676419421066581 : UInt64) (FP.i2d x120))), .second, .val (.double (4599676419421066581 : UInt64)), .second, .unset, .unset] D_133 rfl ?_
            refine wp_iload D_135 rfl ?_
            refine wp_if_ne D_137 (pc'' := 144) ⟨by decide, by decide⟩ (fun h125 => ?_) (fun h125 => by exact absurd h125 hR122)
            refine wp_dload D_144 rfl ?_
            refine wp_iload D_146 rfl ?_
            refine wp_i2d (FP.i2d x120) D_148 rfl ?_
            refine wp_ddiv (FP.ddiv (4599676419421066581 : UInt64) (FP.i2d x120)) D_149 (Jvm.Free.Fl.ddiv_out (by unfold Jvm.Free.Fl.NoNaN64; decide +kernel) (Jvm.Free.Fl.i2d_fin _) (Jvm.Free.Fl.i2d_nz hR122)) rfl ?_
            refine wp_dstore #[.val (.int a), .val (.int b), .val (.int (3 : Int32)), .val (.int x2), .val (.int (0 : Int32)), .val (.int (0 : Int32)), .val (.int (1 : Int32)), .val (.ref a116), .val (.int x120), .val (.ref a121), .val (.double (FP.ddiv (4599676419421066581 : UInt64) (FP.i2d x120))), .second, .val (.double (4599676419421066581 : UInt64)), .second, .val (.double (FP.ddiv (4599676419421066581 : UInt64) (FP.i2d x120))), .second] D_150 rfl ?_
            refine wp_dload D_152 rfl ?_
            refine wp_dload D_154 rfl ?_
            refine wp_dcmp (0 : Int32) D_156 (dcmpV_self (Jvm.Free.Fl.ddiv_out (by unfold Jvm.Free.Fl.NoNaN64; decide +kernel) (Jvm.Free.Fl.i2d_fin _) (Jvm.Free.Fl.i2d_nz hR122)) _) ?_
            refine wp_if_ne D_157 (pc'' := 164) ⟨by decide, by decide⟩ (fun h126 => by exact absurd h126 (by decide)) (fun h126 => ?_)
            refine wp_iconst 1 D_160 (by decide) ?_
            refine wp_goto D_161 (pc'' := 165) ⟨by decide, by decide⟩ ?_
            refine wp_ireturnN D_165 rfl (by simp) (by decide) (by decide) ?_
            exact rfl
      · skip
        refine wp_iconst 1 D_36 (by decide) ?_
        refine wp_goto D_37 (pc'' := 41) ⟨by decide, by decide⟩ ?_
        refine wp_istore #[.val (.int a), .val (.int b), .val (.int (3 : Int32)), .val (.int x2), .val (.int (0 : Int32)), .val (.int (1 : Int32)), .unset, .unset, .unset, .unset, .unset, .unset, .unset, .unset, .unset, .unset] D_41 rfl ?_
        refine wp_iload_n D_43 rfl ?_
        refine wp_iconst 2 D_44 (by decide) ?_
        refine wp_icmp_le D_45 (pc'' := 58) ⟨by decide, by decide⟩ (fun h127 => by exact absurd h127 (by decide)) (fun h127 => ?_)
        refine wp_iload_n D_48 rfl ?_
        refine wp_iconst 4 D_49 (by decide) ?_
        refine wp_iand D_50 ?_
        refine wp_if_eq D_51 (pc'' := 58) ⟨by decide, by decide⟩ (fun h128 => ?_) (fun h128 => ?_)
        · skip
          refine wp_iconst 0 D_58 (by decide) ?_
          refine wp_istore #[.val (.int a), .val (.int b), .val (.int (3 : Int32)), .val (.int x2), .val (.int (0 : Int32)), .val (.int (1 : Int32)), .val (.int (0 : Int32)), .unset, .unset, .unset, .unset, .unset, .unset, .unset, .unset, .unset] D_59 rfl ?_
          refine wp_iload_n D_61 rfl ?_
          refine wp_newarrayI (n := (3 : Int32)) (3) 3 D_62 rfl rfl rfl (hw _ (List.mem_of_getElem? (i := 0) rfl)) (by decide) (by decide) (by decide) (by decide) (by decide) (by decide) ?_
          intro a129
          show Wp none l Z "com/example/keyword_to_concept/keywordtoconcept/evaluation/RankedTopicAveragePrecisionPinLaw" "law" code maxLocals ret room_1 [(a129, oA .boolean [(0 : Int32), (0 : Int32), (0 : Int32)])] 1 3 64 #[.val (.int a), .val (.int b), .val (.int (3 : Int32)), .val (.int x2), .val (.int (0 : Int32)), .val (.int (1 : Int32)), .val (.int (0 : Int32)), .unset, .unset, .unset, .unset, .unset, .unset, .unset, .unset, .unset] [(.ref a129)] Q_law
          refine wp_astore #[.val (.int a), .val (.int b), .val (.int (3 : Int32)), .val (.int x2), .val (.int (0 : Int32)), .val (.int (1 : Int32)), .val (.int (0 : Int32)), .val (.ref a129), .unset, .unset, .unset, .unset, .unset, .unset, .unset, .unset] D_64 rfl rfl ?_
          refine wp_iload_n D_66 rfl ?_
          refine wp_if_le D_67 (pc'' := 76) ⟨by decide, by decide⟩ (fun h130 => by exact absurd h130 (by decide)) (fun h130 => ?_)
          refine wp_aload D_70 rfl rfl ?_
          refine wp_iconst 0 D_72 (by decide) ?_
          refine wp_iload D_73 rfl ?_
          refine wp_zastore (i := 0) (0) D_75 rfl (by decide) (by decide) (by first | decide | exact Nat.le_of_ble_eq_true rfl | simp) ?_
          rw [show (nar .boolean (0 : Int32)) = (0 : Int32) from by decide]
          show Wp none l Z "com/example/keyword_to_concept/keywordtoconcept/evaluation/RankedTopicAveragePrecisionPinLaw" "law" code maxLocals ret room_1 [(a129, oA .boolean [(0 : Int32), (0 : Int32), (0 : Int32)])] 1 3 76 #[.val (.int a), .val (.int b), .val (.int (3 : Int32)), .val (.int x2), .val (.int (0 : Int32)), .val (.int (1 : Int32)), .val (.int (0 : Int32)), .val (.ref a129), .unset, .unset, .unset, .unset, .unset, .unset, .unset, .unset] [] Q_law
          refine wp_iload_n D_76 rfl ?_
          refine wp_iconst 1 D_77 (by decide) ?_
          refine wp_icmp_le D_78 (pc'' := 87) ⟨by decide, by decide⟩ (fun h131 => by exact absurd h131 (by decide)) (fun h131 => ?_)
          refine wp_aload D_81 rfl rfl ?_
          refine wp_iconst 1 D_83 (by decide) ?_
          refine wp_iload D_84 rfl ?_
          refine wp_zastore (i := 0) (1) D_86 rfl (by decide) (by decide) (by first | decide | exact Nat.le_of_ble_eq_true rfl | simp) ?_
          rw [show (nar .boolean (1 : Int32)) = (1 : Int32) from by decide]
          show Wp none l Z "com/example/keyword_to_concept/keywordtoconcept/evaluation/RankedTopicAveragePrecisionPinLaw" "law" code maxLocals ret room_1 [(a129, oA .boolean [(0 : Int32), (1 : Int32), (0 : Int32)])] 1 3 87 #[.val (.int a), .val (.int b), .val (.int (3 : Int32)), .val (.int x2), .val (.int (0 : Int32)), .val (.int (1 : Int32)), .val (.int (0 : Int32)), .val (.ref a129), .unset, .unset, .unset, .unset, .unset, .unset, .unset, .unset] [] Q_law
          refine wp_iload_n D_87 rfl ?_
          refine wp_iconst 2 D_88 (by decide) ?_
          refine wp_icmp_le D_89 (pc'' := 98) ⟨by decide, by decide⟩ (fun h132 => by exact absurd h132 (by decide)) (fun h132 => ?_)
          refine wp_aload D_92 rfl rfl ?_
          refine wp_iconst 2 D_94 (by decide) ?_
          refine wp_iload D_95 rfl ?_
          refine wp_zastore (i := 0) (2) D_97 rfl (by decide) (by decide) (by first | decide | exact Nat.le_of_ble_eq_true rfl | simp) ?_
          rw [show (nar .boolean (0 : Int32)) = (0 : Int32) from by decide]
          show Wp none l Z "com/example/keyword_to_concept/keywordtoconcept/evaluation/RankedTopicAveragePrecisionPinLaw" "law" code maxLocals ret room_1 [(a129, oA .boolean [(0 : Int32), (1 : Int32), (0 : Int32)])] 1 3 98 #[.val (.int a), .val (.int b), .val (.int (3 : Int32)), .val (.int x2), .val (.int (0 : Int32)), .val (.int (1 : Int32)), .val (.int (0 : Int32)), .val (.ref a129), .unset, .unset, .unset, .unset, .unset, .unset, .unset, .unset] [] Q_law
          refine wp_iload_n D_98 rfl ?_
          refine wp_ldcI D_99 (hw _ (List.mem_of_getElem? (i := 1) rfl)) ?_
          refine wp_iand D_101 ?_
          generalize hg_x133 : (b &&& (2147483647 : Int32)) = x133
          refine wp_istore #[.val (.int a), .val (.int b), .val (.int (3 : Int32)), .val (.int x2), .val (.int (0 : Int32)), .val (.int (1 : Int32)), .val (.int (0 : Int32)), .val (.ref a129), .val (.int x133), .unset, .unset, .unset, .unset, .unset, .unset, .unset] D_102 rfl ?_
          refine wp_new sg_1 [(.null), (.int (0 : Int32))] D_104 (hw _ (List.mem_of_getElem? (i := 2) rfl)) (hw _ (List.mem_of_getElem? (i := 3) rfl)) (hw _ (List.mem_of_getElem? (i := 4) rfl)) (laid_sg_1 l Z a0 hw) (by decide) dfl_sg_1 (by decide) (by decide) ?_
          intro a134
          show Wp none l Z "com/example/keyword_to_concept/keywordtoconcept/evaluation/RankedTopicAveragePrecisionPinLaw" "law" code maxLocals ret room_1 [(a134, oI "com/example/keyword_to_concept/keywordtoconcept/evaluation/RankedTopic" sg_1 [(.null), (.int (0 : Int32))]), (a129, oA .boolean [(0 : Int32), (1 : Int32), (0 : Int32)])] 2 5 107 #[.val (.int a), .val (.int b), .val (.int (3 : Int32)), .val (.int x2), .val (.int (0 : Int32)), .val (.int (1 : Int32)), .val (.int (0 : Int32)), .val (.ref a129), .val (.int x133), .unset, .unset, .unset, .unset, .unset, .unset, .unset] [(.ref a134)] Q_law
          refine wp_dup D_107 rfl ?_
          refine wp_aload D_108 rfl rfl ?_
          refine wp_iload D_110 rfl ?_
          refine wp_init (c_ini l Z a0 hw a134 a129 x133 [(a129, oA .boolean [(0 : Int32), (1 : Int32), (0 : Int32)])]) D_112 rfl (hw _ (List.mem_of_getElem? (i := 5) rfl)) (hw _ (List.mem_of_getElem? (i := 6) rfl)) (hw _ (List.mem_of_getElem? (i := 4) rfl)) (hw _ (List.mem_of_getElem? (i := 7) rfl)) (by decide) pd_1 rfl rfl rfl (Nat.le_of_ble_eq_true rfl) (Nat.le_of_ble_eq_true rfl) (Nat.le_of_ble_eq_true rfl) (Nat.le_of_ble_eq_true rfl) ?_
          rintro _ _ ⟨rfl, rfl⟩
          show Wp none l Z "com/example/keyword_to_concept/keywordtoconcept/evaluation/RankedTopicAveragePrecisionPinLaw" "law" code maxLocals ret room_1 [(a134, oI "com/example/keyword_to_concept/keywordtoconcept/evaluation/RankedTopic" sg_1 [(.ref a129), (.int x133)]), (a129, oA .boolean [(0 : Int32), (1 : Int32), (0 : Int32)])] 2 5 115 #[.val (.int a), .val (.int b), .val (.int (3 : Int32)), .val (.int x2), .val (.int (0 : Int32)), .val (.int (1 : Int32)), .val (.int (0 : Int32)), .val (.ref a129), .val (.int x133), .unset, .unset, .unset, .unset, .unset, .unset, .unset] [(.ref a134)] Q_law
          refine wp_astore #[.val (.int a), .val (.int b), .val (.int (3 : Int32)), .val (.int x2), .val (.int (0 : Int32)), .val (.int (1 : Int32)), .val (.int (0 : Int32)), .val (.ref a129), .val (.int x133), .val (.ref a134), .unset, .unset, .unset, .unset, .unset, .unset] D_115 rfl rfl ?_
          refine wp_aload D_117 rfl rfl ?_
          refine wp_virtual (c_ap_010 l Z a0 hw a134 a129 x133 []) (exa_new (i := 0) rfl) D_119 (hw _ (List.mem_of_getElem? (i := 15) rfl)) (hw _ (List.mem_of_getElem? (i := 16) rfl)) (hw _ (List.mem_of_getElem? (i := 18) rfl)) (hw _ (List.mem_of_getElem? (i := 18) rfl)) (hw _ (List.mem_of_getElem? (i := 17) rfl)) (hw _ (List.mem_of_getElem? (i := 4) rfl)) (hw _ (List.mem_of_getElem? (i := 19) rfl)) (by decide) pd_2 rfl rfl rfl (Nat.le_of_ble_eq_true rfl) (Nat.le_of_ble_eq_true rfl) (Nat.le_of_ble_eq_true rfl) (Nat.le_of_ble_eq_true rfl) ?_
          rintro _ _ ⟨rfl, rfl⟩
          by_cases hR135 : x133 = 0
          · rw [if_pos hR135]
            show Wp none l Z "com/example/keyword_to_concept/keywordtoconcept/evaluation/RankedTopicAveragePrecisionPinLaw" "law" code maxLocals ret room_1 [(a134, oI "com/example/keyword_to_concept/keywordtoconcept/evaluation/RankedTopic" sg_1 [(.ref a129), (.int x133)]), (a129, oA .boolean [(0 : Int32), (1 : Int32), (0 : Int32)])] 2 5 122 #[.val (.int a), .val (.int b), .val (.int (3 : Int32)), .val (.int x2), .val (.int (0 : Int32)), .val (.int (1 : Int32)), .val (.int (0 : Int32)), .val (.ref a129), .val (.int x133), .val (.ref a134), .unset, .unset, .unset, .unset, .unset, .unset] [(.double (0 : UInt64))] Q_law
            refine wp_dstore #[.val (.int a), .val (.int b), .val (.int (3 : Int32)), .val (.int x2), .val (.int (0 : Int32)), .val (.int (1 : Int32)), .val (.int (0 : Int32)), .val (.ref a129), .val (.int x133), .val (.ref a134), .val (.double (0 : UInt64)), .second, .unset, .unset, .unset, .unset] D_122 rfl ?_
            refine wp_iload D_124 rfl ?_
            refine wp_iload D_126 rfl ?_
            refine wp_iload D_128 rfl ?_
            refine wp_callS (c_ps_010 l Z a0 hw [(a134, oI "com/example/keyword_to_concept/keywordtoconcept/evaluation/RankedTopic" sg_1 [(.ref a129), (.int x133)]), (a129, oA .boolean [(0 : Int32), (1 : Int32), (0 : Int32)])]) D_130 (hw _ (List.mem_of_getElem? (i := 20) rfl)) (hw _ (List.mem_of_getElem? (i := 21) rfl)) (hw _ (List.mem_of_getElem? (i := 22) rfl)) (hw _ (List.mem_of_getElem? (i := 23) rfl)) (by decide) pd_3 rfl rfl rfl (Nat.le_of_ble_eq_true rfl) (Nat.le_of_ble_eq_true rfl) (Nat.le_of_ble_eq_true rfl) (Nat.le_of_ble_eq_true rfl) ?_
            rintro _ _ ⟨rfl, rfl⟩
            show Wp none l Z "com/example/keyword_to_concept/keywordtoconcept/evaluation/RankedTopicAveragePrecisionPinLaw" "law" code maxLocals ret room_1 [(a134, oI "com/example/keyword_to_concept/keywordtoconcept/evaluation/RankedTopic" sg_1 [(.ref a129), (.int x133)]), (a129, oA .boolean [(0 : Int32), (1 : Int32), (0 : Int32)])] 2 5 133 #[.val (.int a), .val (.int b), .val (.int (3 : Int32)), .val (.int x2), .val (.int (0 : Int32)), .val (.int (1 : Int32)), .val (.int (0 : Int32)), .val (.ref a129), .val (.int x133), .val (.ref a134), .val (.double (0 : UInt64)), .second, .unset, .unset, .unset, .unset] [(.double (4602678819172646912 : UInt64))] Q_law
            refine wp_dstore #[.val (.int a), .val (.int b), .val (.int (3 : Int32)), .val (.int x2), .val (.int (0 : Int32)), .val (.int (1 : Int32)), .val (.int (0 : Int32)), .val (.ref a129), .val (.int x133), .val (.ref a134), .val (.double (0 : UInt64)), .second, .val (.double (4602678819172646912 : UInt64)), .second, .unset, .unset] D_133 rfl ?_
            refine wp_iload D_135 rfl ?_
            refine wp_if_ne D_137 (pc'' := 144) ⟨by decide, by decide⟩ (fun h136 => by exact absurd hR135 h136) (fun h136 => ?_)
            refine wp_dconst0 0 D_140 (by decide +kernel) ?_
            refine wp_goto D_141 (pc'' := 150) ⟨by decide, by decide⟩ ?_
            refine wp_dstore #[.val (.int a), .val (.int b), .val (.int (3 : Int32)), .val (.int x2), .val (.int (0 : Int32)), .val (.int (1 : Int32)), .val (.int (0 : Int32)), .val (.ref a129), .val (.int x133), .val (.ref a134), .val (.double (0 : UInt64)), .second, .val (.double (4602678819172646912 : UInt64)), .second, .val (.double (0 : UInt64)), .second] D_150 rfl ?_
            refine wp_dload D_152 rfl ?_
            refine wp_dload D_154 rfl ?_
            refine wp_dcmp (0 : Int32) D_156 (by decide +kernel) ?_
            refine wp_if_ne D_157 (pc'' := 164) ⟨by decide, by decide⟩ (fun h137 => by exact absurd h137 (by decide)) (fun h137 => ?_)
            refine wp_iconst 1 D_160 (by decide) ?_
            refine wp_goto D_161 (pc'' := 165) ⟨by decide, by decide⟩ ?_
            refine wp_ireturnN D_165 rfl (by simp) (by decide) (by decide) ?_
            exact rfl
          · rw [if_neg hR135]
            show Wp none l Z "com/example/keyword_to_concept/keywordtoconcept/evaluation/RankedTopicAveragePrecisionPinLaw" "law" code maxLocals ret room_1 [(a134, oI "com/example/keyword_to_concept/keywordtoconcept/evaluation/RankedTopic" sg_1 [(.ref a129), (.int x133)]), (a129, oA .boolean [(0 : Int32), (1 : Int32), (0 : Int32)])] 2 5 122 #[.val (.int a), .val (.int b), .val (.int (3 : Int32)), .val (.int x2), .val (.int (0 : Int32)), .val (.int (1 : Int32)), .val (.int (0 : Int32)), .val (.ref a129), .val (.int x133), .val (.ref a134), .unset, .unset, .unset, .unset, .unset, .unset] [(.double (FP.ddiv (4602678819172646912 : UInt64) (FP.i2d x133)))] Q_law
            refine wp_dstore #[.val (.int a), .val (.int b), .val (.int (3 : Int32)), .val (.int x2), .val (.int (0 : Int32)), .val (.int (1 : Int32)), .val (.int (0 : Int32)), .val (.ref a129), .val (.int x133), .val (.ref a134), .val (.double (FP.ddiv (4602678819172646912 : UInt64) (FP.i2d x133))), .second, .unset, .unset, .unset, .unset] D_122 rfl ?_
            refine wp_iload D_124 rfl ?_
            refine wp_iload D_126 rfl ?_
            refine wp_iload D_128 rfl ?_
            refine wp_callS (c_ps_010 l Z a0 hw [(a134, oI "com/example/keyword_to_concept/keywordtoconcept/evaluation/RankedTopic" sg_1 [(.ref a129), (.int x133)]), (a129, oA .boolean [(0 : Int32), (1 : Int32), (0 : Int32)])]) D_130 (hw _ (List.mem_of_getElem? (i := 20) rfl)) (hw _ (List.mem_of_getElem? (i := 21) rfl)) (hw _ (List.mem_of_getElem? (i := 22) rfl)) (hw _ (List.mem_of_getElem? (i := 23) rfl)) (by decide) pd_3 rfl rfl rfl (Nat.le_of_ble_eq_true rfl) (Nat.le_of_ble_eq_true rfl) (Nat.le_of_ble_eq_true rfl) (Nat.le_of_ble_eq_true rfl) ?_
            rintro _ _ ⟨rfl, rfl⟩
            show Wp none l Z "com/example/keyword_to_concept/keywordtoconcept/evaluation/RankedTopicAveragePrecisionPinLaw" "law" code maxLocals ret room_1 [(a134, oI "com/example/keyword_to_concept/keywordtoconcept/evaluation/RankedTopic" sg_1 [(.ref a129), (.int x133)]), (a129, oA .boolean [(0 : Int32), (1 : Int32), (0 : Int32)])] 2 5 133 #[.val (.int a), .val (.int b), .val (.int (3 : Int32)), .val (.int x2), .val (.int (0 : Int32)), .val (.int (1 : Int32)), .val (.int (0 : Int32)), .val (.ref a129), .val (.int x133), .val (.ref a134), .val (.double (FP.ddiv (4602678819172646912 : UInt64) (FP.i2d x133))), .second, .unset, .unset, .unset, .unset] [(.double (4602678819172646912 : UInt64))] Q_law
            refine wp_dstore #[.val (.int a), .val (.int b), .val (.int (3 : Int32)), .val (.int x2), .val (.int (0 : Int32)), .val (.int (1 : Int32)), .val (.int (0 : Int32)), .val (.ref a129), .val (.int x133), .val (.ref a134), .val (.double (FP.ddiv (4602678819172646912 : UInt64) (FP.i2d x133))), .second, .val (.double (4602678819172646912 : UInt64)), .second, .unset, .unset] D_133 rfl ?_
            refine wp_iload D_135 rfl ?_
            refine wp_if_ne D_137 (pc'' := 144) ⟨by decide, by decide⟩ (fun h138 => ?_) (fun h138 => by exact absurd h138 hR135)
            refine wp_dload D_144 rfl ?_
            refine wp_iload D_146 rfl ?_
            refine wp_i2d (FP.i2d x133) D_148 rfl ?_
            refine wp_ddiv (FP.ddiv (4602678819172646912 : UInt64) (FP.i2d x133)) D_149 (Jvm.Free.Fl.ddiv_out (by unfold Jvm.Free.Fl.NoNaN64; decide +kernel) (Jvm.Free.Fl.i2d_fin _) (Jvm.Free.Fl.i2d_nz hR135)) rfl ?_
            refine wp_dstore #[.val (.int a), .val (.int b), .val (.int (3 : Int32)), .val (.int x2), .val (.int (0 : Int32)), .val (.int (1 : Int32)), .val (.int (0 : Int32)), .val (.ref a129), .val (.int x133), .val (.ref a134), .val (.double (FP.ddiv (4602678819172646912 : UInt64) (FP.i2d x133))), .second, .val (.double (4602678819172646912 : UInt64)), .second, .val (.double (FP.ddiv (4602678819172646912 : UInt64) (FP.i2d x133))), .second] D_150 rfl ?_
            refine wp_dload D_152 rfl ?_
            refine wp_dload D_154 rfl ?_
            refine wp_dcmp (0 : Int32) D_156 (dcmpV_self (Jvm.Free.Fl.ddiv_out (by unfold Jvm.Free.Fl.NoNaN64; decide +kernel) (Jvm.Free.Fl.i2d_fin _) (Jvm.Free.Fl.i2d_nz hR135)) _) ?_
            refine wp_if_ne D_157 (pc'' := 164) ⟨by decide, by decide⟩ (fun h139 => by exact absurd h139 (by decide)) (fun h139 => ?_)
            refine wp_iconst 1 D_160 (by decide) ?_
            refine wp_goto D_161 (pc'' := 165) ⟨by decide, by decide⟩ ?_
            refine wp_ireturnN D_165 rfl (by simp) (by decide) (by decide) ?_
            exact rfl
        · skip
          refine wp_iconst 1 D_54 (by decide) ?_
          refine wp_goto D_55 (pc'' := 59) ⟨by decide, by decide⟩ ?_
          refine wp_istore #[.val (.int a), .val (.int b), .val (.int (3 : Int32)), .val (.int x2), .val (.int (0 : Int32)), .val (.int (1 : Int32)), .val (.int (1 : Int32)), .unset, .unset, .unset, .unset, .unset, .unset, .unset, .unset, .unset] D_59 rfl ?_
          refine wp_iload_n D_61 rfl ?_
          refine wp_newarrayI (n := (3 : Int32)) (3) 3 D_62 rfl rfl rfl (hw _ (List.mem_of_getElem? (i := 0) rfl)) (by decide) (by decide) (by decide) (by decide) (by decide) (by decide) ?_
          intro a140
          show Wp none l Z "com/example/keyword_to_concept/keywordtoconcept/evaluation/RankedTopicAveragePrecisionPinLaw" "law" code maxLocals ret room_1 [(a140, oA .boolean [(0 : Int32), (0 : Int32), (0 : Int32)])] 1 3 64 #[.val (.int a), .val (.int b), .val (.int (3 : Int32)), .val (.int x2), .val (.int (0 : Int32)), .val (.int (1 : Int32)), .val (.int (1 : Int32)), .unset, .unset, .unset, .unset, .unset, .unset, .unset, .unset, .unset] [(.ref a140)] Q_law
          refine wp_astore #[.val (.int a), .val (.int b), .val (.int (3 : Int32)), .val (.int x2), .val (.int (0 : Int32)), .val (.int (1 : Int32)), .val (.int (1 : Int32)), .val (.ref a140), .unset, .unset, .unset, .unset, .unset, .unset, .unset, .unset] D_64 rfl rfl ?_
          refine wp_iload_n D_66 rfl ?_
          refine wp_if_le D_67 (pc'' := 76) ⟨by decide, by decide⟩ (fun h141 => by exact absurd h141 (by decide)) (fun h141 => ?_)
          refine wp_aload D_70 rfl rfl ?_
          refine wp_iconst 0 D_72 (by decide) ?_
          refine wp_iload D_73 rfl ?_
          refine wp_zastore (i := 0) (0) D_75 rfl (by decide) (by decide) (by first | decide | exact Nat.le_of_ble_eq_true rfl | simp) ?_
          rw [show (nar .boolean (0 : Int32)) = (0 : Int32) from by decide]
          show Wp none l Z "com/example/keyword_to_concept/keywordtoconcept/evaluation/RankedTopicAveragePrecisionPinLaw" "law" code maxLocals ret room_1 [(a140, oA .boolean [(0 : Int32), (0 : Int32), (0 : Int32)])] 1 3 76 #[.val (.int a), .val (.int b), .val (.int (3 : Int32)), .val (.int x2), .val (.int (0 : Int32)), .val (.int (1 : Int32)), .val (.int (1 : Int32)), .val (.ref a140), .unset, .unset, .unset, .unset, .unset, .unset, .unset, .unset] [] Q_law
          refine wp_iload_n D_76 rfl ?_
          refine wp_iconst 1 D_77 (by decide) ?_
          refine wp_icmp_le D_78 (pc'' := 87) ⟨by decide, by decide⟩ (fun h142 => by exact absurd h142 (by decide)) (fun h142 => ?_)
          refine wp_aload D_81 rfl rfl ?_
          refine wp_iconst 1 D_83 (by decide) ?_
          refine wp_iload D_84 rfl ?_
          refine wp_zastore (i := 0) (1) D_86 rfl (by decide) (by decide) (by first | decide | exact Nat.le_of_ble_eq_true rfl | simp) ?_
          rw [show (nar .boolean (1 : Int32)) = (1 : Int32) from by decide]
          show Wp none l Z "com/example/keyword_to_concept/keywordtoconcept/evaluation/RankedTopicAveragePrecisionPinLaw" "law" code maxLocals ret room_1 [(a140, oA .boolean [(0 : Int32), (1 : Int32), (0 : Int32)])] 1 3 87 #[.val (.int a), .val (.int b), .val (.int (3 : Int32)), .val (.int x2), .val (.int (0 : Int32)), .val (.int (1 : Int32)), .val (.int (1 : Int32)), .val (.ref a140), .unset, .unset, .unset, .unset, .unset, .unset, .unset, .unset] [] Q_law
          refine wp_iload_n D_87 rfl ?_
          refine wp_iconst 2 D_88 (by decide) ?_
          refine wp_icmp_le D_89 (pc'' := 98) ⟨by decide, by decide⟩ (fun h143 => by exact absurd h143 (by decide)) (fun h143 => ?_)
          refine wp_aload D_92 rfl rfl ?_
          refine wp_iconst 2 D_94 (by decide) ?_
          refine wp_iload D_95 rfl ?_
          refine wp_zastore (i := 0) (2) D_97 rfl (by decide) (by decide) (by first | decide | exact Nat.le_of_ble_eq_true rfl | simp) ?_
          rw [show (nar .boolean (1 : Int32)) = (1 : Int32) from by decide]
          show Wp none l Z "com/example/keyword_to_concept/keywordtoconcept/evaluation/RankedTopicAveragePrecisionPinLaw" "law" code maxLocals ret room_1 [(a140, oA .boolean [(0 : Int32), (1 : Int32), (1 : Int32)])] 1 3 98 #[.val (.int a), .val (.int b), .val (.int (3 : Int32)), .val (.int x2), .val (.int (0 : Int32)), .val (.int (1 : Int32)), .val (.int (1 : Int32)), .val (.ref a140), .unset, .unset, .unset, .unset, .unset, .unset, .unset, .unset] [] Q_law
          refine wp_iload_n D_98 rfl ?_
          refine wp_ldcI D_99 (hw _ (List.mem_of_getElem? (i := 1) rfl)) ?_
          refine wp_iand D_101 ?_
          generalize hg_x144 : (b &&& (2147483647 : Int32)) = x144
          refine wp_istore #[.val (.int a), .val (.int b), .val (.int (3 : Int32)), .val (.int x2), .val (.int (0 : Int32)), .val (.int (1 : Int32)), .val (.int (1 : Int32)), .val (.ref a140), .val (.int x144), .unset, .unset, .unset, .unset, .unset, .unset, .unset] D_102 rfl ?_
          refine wp_new sg_1 [(.null), (.int (0 : Int32))] D_104 (hw _ (List.mem_of_getElem? (i := 2) rfl)) (hw _ (List.mem_of_getElem? (i := 3) rfl)) (hw _ (List.mem_of_getElem? (i := 4) rfl)) (laid_sg_1 l Z a0 hw) (by decide) dfl_sg_1 (by decide) (by decide) ?_
          intro a145
          show Wp none l Z "com/example/keyword_to_concept/keywordtoconcept/evaluation/RankedTopicAveragePrecisionPinLaw" "law" code maxLocals ret room_1 [(a145, oI "com/example/keyword_to_concept/keywordtoconcept/evaluation/RankedTopic" sg_1 [(.null), (.int (0 : Int32))]), (a140, oA .boolean [(0 : Int32), (1 : Int32), (1 : Int32)])] 2 5 107 #[.val (.int a), .val (.int b), .val (.int (3 : Int32)), .val (.int x2), .val (.int (0 : Int32)), .val (.int (1 : Int32)), .val (.int (1 : Int32)), .val (.ref a140), .val (.int x144), .unset, .unset, .unset, .unset, .unset, .unset, .unset] [(.ref a145)] Q_law
          refine wp_dup D_107 rfl ?_
          refine wp_aload D_108 rfl rfl ?_
          refine wp_iload D_110 rfl ?_
          refine wp_init (c_ini l Z a0 hw a145 a140 x144 [(a140, oA .boolean [(0 : Int32), (1 : Int32), (1 : Int32)])]) D_112 rfl (hw _ (List.mem_of_getElem? (i := 5) rfl)) (hw _ (List.mem_of_getElem? (i := 6) rfl)) (hw _ (List.mem_of_getElem? (i := 4) rfl)) (hw _ (List.mem_of_getElem? (i := 7) rfl)) (by decide) pd_1 rfl rfl rfl (Nat.le_of_ble_eq_true rfl) (Nat.le_of_ble_eq_true rfl) (Nat.le_of_ble_eq_true rfl) (Nat.le_of_ble_eq_true rfl) ?_
          rintro _ _ ⟨rfl, rfl⟩
          show Wp none l Z "com/example/keyword_to_concept/keywordtoconcept/evaluation/RankedTopicAveragePrecisionPinLaw" "law" code maxLocals ret room_1 [(a145, oI "com/example/keyword_to_concept/keywordtoconcept/evaluation/RankedTopic" sg_1 [(.ref a140), (.int x144)]), (a140, oA .boolean [(0 : Int32), (1 : Int32), (1 : Int32)])] 2 5 115 #[.val (.int a), .val (.int b), .val (.int (3 : Int32)), .val (.int x2), .val (.int (0 : Int32)), .val (.int (1 : Int32)), .val (.int (1 : Int32)), .val (.ref a140), .val (.int x144), .unset, .unset, .unset, .unset, .unset, .unset, .unset] [(.ref a145)] Q_law
          refine wp_astore #[.val (.int a), .val (.int b), .val (.int (3 : Int32)), .val (.int x2), .val (.int (0 : Int32)), .val (.int (1 : Int32)), .val (.int (1 : Int32)), .val (.ref a140), .val (.int x144), .val (.ref a145), .unset, .unset, .unset, .unset, .unset, .unset] D_115 rfl rfl ?_
          refine wp_aload D_117 rfl rfl ?_
          refine wp_virtual (c_ap_011 l Z a0 hw a145 a140 x144 []) (exa_new (i := 0) rfl) D_119 (hw _ (List.mem_of_getElem? (i := 15) rfl)) (hw _ (List.mem_of_getElem? (i := 16) rfl)) (hw _ (List.mem_of_getElem? (i := 18) rfl)) (hw _ (List.mem_of_getElem? (i := 18) rfl)) (hw _ (List.mem_of_getElem? (i := 17) rfl)) (hw _ (List.mem_of_getElem? (i := 4) rfl)) (hw _ (List.mem_of_getElem? (i := 19) rfl)) (by decide) pd_2 rfl rfl rfl (Nat.le_of_ble_eq_true rfl) (Nat.le_of_ble_eq_true rfl) (Nat.le_of_ble_eq_true rfl) (Nat.le_of_ble_eq_true rfl) ?_
          rintro _ _ ⟨rfl, rfl⟩
          by_cases hR146 : x144 = 0
          · rw [if_pos hR146]
            show Wp none l Z "com/example/keyword_to_concept/keywordtoconcept/evaluation/RankedTopicAveragePrecisionPinLaw" "law" code maxLocals ret room_1 [(a145, oI "com/example/keyword_to_concept/keywordtoconcept/evaluation/RankedTopic" sg_1 [(.ref a140), (.int x144)]), (a140, oA .boolean [(0 : Int32), (1 : Int32), (1 : Int32)])] 2 5 122 #[.val (.int a), .val (.int b), .val (.int (3 : Int32)), .val (.int x2), .val (.int (0 : Int32)), .val (.int (1 : Int32)), .val (.int (1 : Int32)), .val (.ref a140), .val (.int x144), .val (.ref a145), .unset, .unset, .unset, .unset, .unset, .unset] [(.double (0 : UInt64))] Q_law
            refine wp_dstore #[.val (.int a), .val (.int b), .val (.int (3 : Int32)), .val (.int x2), .val (.int (0 : Int32)), .val (.int (1 : Int32)), .val (.int (1 : Int32)), .val (.ref a140), .val (.int x144), .val (.ref a145), .val (.double (0 : UInt64)), .second, .unset, .unset, .unset, .unset] D_122 rfl ?_
            refine wp_iload D_124 rfl ?_
            refine wp_iload D_126 rfl ?_
            refine wp_iload D_128 rfl ?_
            refine wp_callS (c_ps_011 l Z a0 hw [(a145, oI "com/example/keyword_to_concept/keywordtoconcept/evaluation/RankedTopic" sg_1 [(.ref a140), (.int x144)]), (a140, oA .boolean [(0 : Int32), (1 : Int32), (1 : Int32)])]) D_130 (hw _ (List.mem_of_getElem? (i := 20) rfl)) (hw _ (List.mem_of_getElem? (i := 21) rfl)) (hw _ (List.mem_of_getElem? (i := 22) rfl)) (hw _ (List.mem_of_getElem? (i := 23) rfl)) (by decide) pd_3 rfl rfl rfl (Nat.le_of_ble_eq_true rfl) (Nat.le_of_ble_eq_true rfl) (Nat.le_of_ble_eq_true rfl) (Nat.le_of_ble_eq_true rfl) ?_
            rintro _ _ ⟨rfl, rfl⟩
            show Wp none l Z "com/example/keyword_to_concept/keywordtoconcept/evaluation/RankedTopicAveragePrecisionPinLaw" "law" code maxLocals ret room_1 [(a145, oI "com/example/keyword_to_concept/keywordtoconcept/evaluation/RankedTopic" sg_1 [(.ref a140), (.int x144)]), (a140, oA .boolean [(0 : Int32), (1 : Int32), (1 : Int32)])] 2 5 133 #[.val (.int a), .val (.int b), .val (.int (3 : Int32)), .val (.int x2), .val (.int (0 : Int32)), .val (.int (1 : Int32)), .val (.int (1 : Int32)), .val (.ref a140), .val (.int x144), .val (.ref a145), .val (.double (0 : UInt64)), .second, .unset, .unset, .unset, .unset] [(.double (4607933018737912490 : UInt64))] Q_law
            refine wp_dstore #[.val (.int a), .val (.int b), .val (.int (3 : Int32)), .val (.int x2), .val (.int (0 : Int32)), .val (.int (1 : Int32)), .val (.int (1 : Int32)), .val (.ref a140), .val (.int x144), .val (.ref a145), .val (.double (0 : UInt64)), .second, .val (.double (4607933018737912490 : UInt64)), .second, .unset, .unset] D_133 rfl ?_
            refine wp_iload D_135 rfl ?_
            refine wp_if_ne D_137 (pc'' := 144) ⟨by decide, by decide⟩ (fun h147 => by exact absurd hR146 h147) (fun h147 => ?_)
            refine wp_dconst0 0 D_140 (by decide +kernel) ?_
            refine wp_goto D_141 (pc'' := 150) ⟨by decide, by decide⟩ ?_
            refine wp_dstore #[.val (.int a), .val (.int b), .val (.int (3 : Int32)), .val (.int x2), .val (.int (0 : Int32)), .val (.int (1 : Int32)), .val (.int (1 : Int32)), .val (.ref a140), .val (.int x144), .val (.ref a145), .val (.double (0 : UInt64)), .second, .val (.double (4607933018737912490 : UInt64)), .second, .val (.double (0 : UInt64)), .second] D_150 rfl ?_
            refine wp_dload D_152 rfl ?_
            refine wp_dload D_154 rfl ?_
            refine wp_dcmp (0 : Int32) D_156 (by decide +kernel) ?_
            refine wp_if_ne D_157 (pc'' := 164) ⟨by decide, by decide⟩ (fun h148 => by exact absurd h148 (by decide)) (fun h148 => ?_)
            refine wp_iconst 1 D_160 (by decide) ?_
            refine wp_goto D_161 (pc'' := 165) ⟨by decide, by decide⟩ ?_
            refine wp_ireturnN D_165 rfl (by simp) (by decide) (by decide) ?_
            exact rfl
          · rw [if_neg hR146]
            show Wp none l Z "com/example/keyword_to_concept/keywordtoconcept/evaluation/RankedTopicAveragePrecisionPinLaw" "law" code maxLocals ret room_1 [(a145, oI "com/example/keyword_to_concept/keywordtoconcept/evaluation/RankedTopic" sg_1 [(.ref a140), (.int x144)]), (a140, oA .boolean [(0 : Int32), (1 : Int32), (1 : Int32)])] 2 5 122 #[.val (.int a), .val (.int b), .val (.int (3 : Int32)), .val (.int x2), .val (.int (0 : Int32)), .val (.int (1 : Int32)), .val (.int (1 : Int32)), .val (.ref a140), .val (.int x144), .val (.ref a145), .unset, .unset, .unset, .unset, .unset, .unset] [(.double (FP.ddiv (4607933018737912490 : UInt64) (FP.i2d x144)))] Q_law
            refine wp_dstore #[.val (.int a), .val (.int b), .val (.int (3 : Int32)), .val (.int x2), .val (.int (0 : Int32)), .val (.int (1 : Int32)), .val (.int (1 : Int32)), .val (.ref a140), .val (.int x144), .val (.ref a145), .val (.double (FP.ddiv (4607933018737912490 : UInt64) (FP.i2d x144))), .second, .unset, .unset, .unset, .unset] D_122 rfl ?_
            refine wp_iload D_124 rfl ?_
            refine wp_iload D_126 rfl ?_
            refine wp_iload D_128 rfl ?_
            refine wp_callS (c_ps_011 l Z a0 hw [(a145, oI "com/example/keyword_to_concept/keywordtoconcept/evaluation/RankedTopic" sg_1 [(.ref a140), (.int x144)]), (a140, oA .boolean [(0 : Int32), (1 : Int32), (1 : Int32)])]) D_130 (hw _ (List.mem_of_getElem? (i := 20) rfl)) (hw _ (List.mem_of_getElem? (i := 21) rfl)) (hw _ (List.mem_of_getElem? (i := 22) rfl)) (hw _ (List.mem_of_getElem? (i := 23) rfl)) (by decide) pd_3 rfl rfl rfl (Nat.le_of_ble_eq_true rfl) (Nat.le_of_ble_eq_true rfl) (Nat.le_of_ble_eq_true rfl) (Nat.le_of_ble_eq_true rfl) ?_
            rintro _ _ ⟨rfl, rfl⟩
            show Wp none l Z "com/example/keyword_to_concept/keywordtoconcept/evaluation/RankedTopicAveragePrecisionPinLaw" "law" code maxLocals ret room_1 [(a145, oI "com/example/keyword_to_concept/keywordtoconcept/evaluation/RankedTopic" sg_1 [(.ref a140), (.int x144)]), (a140, oA .boolean [(0 : Int32), (1 : Int32), (1 : Int32)])] 2 5 133 #[.val (.int a), .val (.int b), .val (.int (3 : Int32)), .val (.int x2), .val (.int (0 : Int32)), .val (.int (1 : Int32)), .val (.int (1 : Int32)), .val (.ref a140), .val (.int x144), .val (.ref a145), .val (.double (FP.ddiv (4607933018737912490 : UInt64) (FP.i2d x144))), .second, .unset, .unset, .unset, .unset] [(.double (4607933018737912490 : UInt64))] Q_law
            refine wp_dstore #[.val (.int a), .val (.int b), .val (.int (3 : Int32)), .val (.int x2), .val (.int (0 : Int32)), .val (.int (1 : Int32)), .val (.int (1 : Int32)), .val (.ref a140), .val (.int x144), .val (.ref a145), .val (.double (FP.ddiv (4607933018737912490 : UInt64) (FP.i2d x144))), .second, .val (.double (4607933018737912490 : UInt64)), .second, .unset, .unset] D_133 rfl ?_
            refine wp_iload D_135 rfl ?_
            refine wp_if_ne D_137 (pc'' := 144) ⟨by decide, by decide⟩ (fun h149 => ?_) (fun h149 => by exact absurd h149 hR146)
            refine wp_dload D_144 rfl ?_
            refine wp_iload D_146 rfl ?_
            refine wp_i2d (FP.i2d x144) D_148 rfl ?_
            refine wp_ddiv (FP.ddiv (4607933018737912490 : UInt64) (FP.i2d x144)) D_149 (Jvm.Free.Fl.ddiv_out (by unfold Jvm.Free.Fl.NoNaN64; decide +kernel) (Jvm.Free.Fl.i2d_fin _) (Jvm.Free.Fl.i2d_nz hR146)) rfl ?_
            refine wp_dstore #[.val (.int a), .val (.int b), .val (.int (3 : Int32)), .val (.int x2), .val (.int (0 : Int32)), .val (.int (1 : Int32)), .val (.int (1 : Int32)), .val (.ref a140), .val (.int x144), .val (.ref a145), .val (.double (FP.ddiv (4607933018737912490 : UInt64) (FP.i2d x144))), .second, .val (.double (4607933018737912490 : UInt64)), .second, .val (.double (FP.ddiv (4607933018737912490 : UInt64) (FP.i2d x144))), .second] D_150 rfl ?_
            refine wp_dload D_152 rfl ?_
            refine wp_dload D_154 rfl ?_
            refine wp_dcmp (0 : Int32) D_156 (dcmpV_self (Jvm.Free.Fl.ddiv_out (by unfold Jvm.Free.Fl.NoNaN64; decide +kernel) (Jvm.Free.Fl.i2d_fin _) (Jvm.Free.Fl.i2d_nz hR146)) _) ?_
            refine wp_if_ne D_157 (pc'' := 164) ⟨by decide, by decide⟩ (fun h150 => by exact absurd h150 (by decide)) (fun h150 => ?_)
            refine wp_iconst 1 D_160 (by decide) ?_
            refine wp_goto D_161 (pc'' := 165) ⟨by decide, by decide⟩ ?_
            refine wp_ireturnN D_165 rfl (by simp) (by decide) (by decide) ?_
            exact rfl
    · skip
      refine wp_iconst 1 D_18 (by decide) ?_
      refine wp_goto D_19 (pc'' := 23) ⟨by decide, by decide⟩ ?_
      refine wp_istore #[.val (.int a), .val (.int b), .val (.int (3 : Int32)), .val (.int x2), .val (.int (1 : Int32)), .unset, .unset, .unset, .unset, .unset, .unset, .unset, .unset, .unset, .unset, .unset] D_23 rfl ?_
      refine wp_iload_n D_25 rfl ?_
      refine wp_iconst 1 D_26 (by decide) ?_
      refine wp_icmp_le D_27 (pc'' := 40) ⟨by decide, by decide⟩ (fun h151 => by exact absurd h151 (by decide)) (fun h151 => ?_)
      refine wp_iload_n D_30 rfl ?_
      refine wp_iconst 2 D_31 (by decide) ?_
      refine wp_iand D_32 ?_
      refine wp_if_eq D_33 (pc'' := 40) ⟨by decide, by decide⟩ (fun h152 => ?_) (fun h152 => ?_)
      · skip
        refine wp_iconst 0 D_40 (by decide) ?_
        refine wp_istore #[.val (.int a), .val (.int b), .val (.int (3 : Int32)), .val (.int x2), .val (.int (1 : Int32)), .val (.int (0 : Int32)), .unset, .unset, .unset, .unset, .unset, .unset, .unset, .unset, .unset, .unset] D_41 rfl ?_
        refine wp_iload_n D_43 rfl ?_
        refine wp_iconst 2 D_44 (by decide) ?_
        refine wp_icmp_le D_45 (pc'' := 58) ⟨by decide, by decide⟩ (fun h153 => by exact absurd h153 (by decide)) (fun h153 => ?_)
        refine wp_iload_n D_48 rfl ?_
        refine wp_iconst 4 D_49 (by decide) ?_
        refine wp_iand D_50 ?_
        refine wp_if_eq D_51 (pc'' := 58) ⟨by decide, by decide⟩ (fun h154 => ?_) (fun h154 => ?_)
        · skip
          refine wp_iconst 0 D_58 (by decide) ?_
          refine wp_istore #[.val (.int a), .val (.int b), .val (.int (3 : Int32)), .val (.int x2), .val (.int (1 : Int32)), .val (.int (0 : Int32)), .val (.int (0 : Int32)), .unset, .unset, .unset, .unset, .unset, .unset, .unset, .unset, .unset] D_59 rfl ?_
          refine wp_iload_n D_61 rfl ?_
          refine wp_newarrayI (n := (3 : Int32)) (3) 3 D_62 rfl rfl rfl (hw _ (List.mem_of_getElem? (i := 0) rfl)) (by decide) (by decide) (by decide) (by decide) (by decide) (by decide) ?_
          intro a155
          show Wp none l Z "com/example/keyword_to_concept/keywordtoconcept/evaluation/RankedTopicAveragePrecisionPinLaw" "law" code maxLocals ret room_1 [(a155, oA .boolean [(0 : Int32), (0 : Int32), (0 : Int32)])] 1 3 64 #[.val (.int a), .val (.int b), .val (.int (3 : Int32)), .val (.int x2), .val (.int (1 : Int32)), .val (.int (0 : Int32)), .val (.int (0 : Int32)), .unset, .unset, .unset, .unset, .unset, .unset, .unset, .unset, .unset] [(.ref a155)] Q_law
          refine wp_astore #[.val (.int a), .val (.int b), .val (.int (3 : Int32)), .val (.int x2), .val (.int (1 : Int32)), .val (.int (0 : Int32)), .val (.int (0 : Int32)), .val (.ref a155), .unset, .unset, .unset, .unset, .unset, .unset, .unset, .unset] D_64 rfl rfl ?_
          refine wp_iload_n D_66 rfl ?_
          refine wp_if_le D_67 (pc'' := 76) ⟨by decide, by decide⟩ (fun h156 => by exact absurd h156 (by decide)) (fun h156 => ?_)
          refine wp_aload D_70 rfl rfl ?_
          refine wp_iconst 0 D_72 (by decide) ?_
          refine wp_iload D_73 rfl ?_
          refine wp_zastore (i := 0) (0) D_75 rfl (by decide) (by decide) (by first | decide | exact Nat.le_of_ble_eq_true rfl | simp) ?_
          rw [show (nar .boolean (1 : Int32)) = (1 : Int32) from by decide]
          show Wp none l Z "com/example/keyword_to_concept/keywordtoconcept/evaluation/RankedTopicAveragePrecisionPinLaw" "law" code maxLocals ret room_1 [(a155, oA .boolean [(1 : Int32), (0 : Int32), (0 : Int32)])] 1 3 76 #[.val (.int a), .val (.int b), .val (.int (3 : Int32)), .val (.int x2), .val (.int (1 : Int32)), .val (.int (0 : Int32)), .val (.int (0 : Int32)), .val (.ref a155), .unset, .unset, .unset, .unset, .unset, .unset, .unset, .unset] [] Q_law
          refine wp_iload_n D_76 rfl ?_
          refine wp_iconst 1 D_77 (by decide) ?_
          refine wp_icmp_le D_78 (pc'' := 87) ⟨by decide, by decide⟩ (fun h157 => by exact absurd h157 (by decide)) (fun h157 => ?_)
          refine wp_aload D_81 rfl rfl ?_
          refine wp_iconst 1 D_83 (by decide) ?_
          refine wp_iload D_84 rfl ?_
          refine wp_zastore (i := 0) (1) D_86 rfl (by decide) (by decide) (by first | decide | exact Nat.le_of_ble_eq_true rfl | simp) ?_
          rw [show (nar .boolean (0 : Int32)) = (0 : Int32) from by decide]
          show Wp none l Z "com/example/keyword_to_concept/keywordtoconcept/evaluation/RankedTopicAveragePrecisionPinLaw" "law" code maxLocals ret room_1 [(a155, oA .boolean [(1 : Int32), (0 : Int32), (0 : Int32)])] 1 3 87 #[.val (.int a), .val (.int b), .val (.int (3 : Int32)), .val (.int x2), .val (.int (1 : Int32)), .val (.int (0 : Int32)), .val (.int (0 : Int32)), .val (.ref a155), .unset, .unset, .unset, .unset, .unset, .unset, .unset, .unset] [] Q_law
          refine wp_iload_n D_87 rfl ?_
          refine wp_iconst 2 D_88 (by decide) ?_
          refine wp_icmp_le D_89 (pc'' := 98) ⟨by decide, by decide⟩ (fun h158 => by exact absurd h158 (by decide)) (fun h158 => ?_)
          refine wp_aload D_92 rfl rfl ?_
          refine wp_iconst 2 D_94 (by decide) ?_
          refine wp_iload D_95 rfl ?_
          refine wp_zastore (i := 0) (2) D_97 rfl (by decide) (by decide) (by first | decide | exact Nat.le_of_ble_eq_true rfl | simp) ?_
          rw [show (nar .boolean (0 : Int32)) = (0 : Int32) from by decide]
          show Wp none l Z "com/example/keyword_to_concept/keywordtoconcept/evaluation/RankedTopicAveragePrecisionPinLaw" "law" code maxLocals ret room_1 [(a155, oA .boolean [(1 : Int32), (0 : Int32), (0 : Int32)])] 1 3 98 #[.val (.int a), .val (.int b), .val (.int (3 : Int32)), .val (.int x2), .val (.int (1 : Int32)), .val (.int (0 : Int32)), .val (.int (0 : Int32)), .val (.ref a155), .unset, .unset, .unset, .unset, .unset, .unset, .unset, .unset] [] Q_law
          refine wp_iload_n D_98 rfl ?_
          refine wp_ldcI D_99 (hw _ (List.mem_of_getElem? (i := 1) rfl)) ?_
          refine wp_iand D_101 ?_
          generalize hg_x159 : (b &&& (2147483647 : Int32)) = x159
          refine wp_istore #[.val (.int a), .val (.int b), .val (.int (3 : Int32)), .val (.int x2), .val (.int (1 : Int32)), .val (.int (0 : Int32)), .val (.int (0 : Int32)), .val (.ref a155), .val (.int x159), .unset, .unset, .unset, .unset, .unset, .unset, .unset] D_102 rfl ?_
          refine wp_new sg_1 [(.null), (.int (0 : Int32))] D_104 (hw _ (List.mem_of_getElem? (i := 2) rfl)) (hw _ (List.mem_of_getElem? (i := 3) rfl)) (hw _ (List.mem_of_getElem? (i := 4) rfl)) (laid_sg_1 l Z a0 hw) (by decide) dfl_sg_1 (by decide) (by decide) ?_
          intro a160
          show Wp none l Z "com/example/keyword_to_concept/keywordtoconcept/evaluation/RankedTopicAveragePrecisionPinLaw" "law" code maxLocals ret room_1 [(a160, oI "com/example/keyword_to_concept/keywordtoconcept/evaluation/RankedTopic" sg_1 [(.null), (.int (0 : Int32))]), (a155, oA .boolean [(1 : Int32), (0 : Int32), (0 : Int32)])] 2 5 107 #[.val (.int a), .val (.int b), .val (.int (3 : Int32)), .val (.int x2), .val (.int (1 : Int32)), .val (.int (0 : Int32)), .val (.int (0 : Int32)), .val (.ref a155), .val (.int x159), .unset, .unset, .unset, .unset, .unset, .unset, .unset] [(.ref a160)] Q_law
          refine wp_dup D_107 rfl ?_
          refine wp_aload D_108 rfl rfl ?_
          refine wp_iload D_110 rfl ?_
          refine wp_init (c_ini l Z a0 hw a160 a155 x159 [(a155, oA .boolean [(1 : Int32), (0 : Int32), (0 : Int32)])]) D_112 rfl (hw _ (List.mem_of_getElem? (i := 5) rfl)) (hw _ (List.mem_of_getElem? (i := 6) rfl)) (hw _ (List.mem_of_getElem? (i := 4) rfl)) (hw _ (List.mem_of_getElem? (i := 7) rfl)) (by decide) pd_1 rfl rfl rfl (Nat.le_of_ble_eq_true rfl) (Nat.le_of_ble_eq_true rfl) (Nat.le_of_ble_eq_true rfl) (Nat.le_of_ble_eq_true rfl) ?_
          rintro _ _ ⟨rfl, rfl⟩
          show Wp none l Z "com/example/keyword_to_concept/keywordtoconcept/evaluation/RankedTopicAveragePrecisionPinLaw" "law" code maxLocals ret room_1 [(a160, oI "com/example/keyword_to_concept/keywordtoconcept/evaluation/RankedTopic" sg_1 [(.ref a155), (.int x159)]), (a155, oA .boolean [(1 : Int32), (0 : Int32), (0 : Int32)])] 2 5 115 #[.val (.int a), .val (.int b), .val (.int (3 : Int32)), .val (.int x2), .val (.int (1 : Int32)), .val (.int (0 : Int32)), .val (.int (0 : Int32)), .val (.ref a155), .val (.int x159), .unset, .unset, .unset, .unset, .unset, .unset, .unset] [(.ref a160)] Q_law
          refine wp_astore #[.val (.int a), .val (.int b), .val (.int (3 : Int32)), .val (.int x2), .val (.int (1 : Int32)), .val (.int (0 : Int32)), .val (.int (0 : Int32)), .val (.ref a155), .val (.int x159), .val (.ref a160), .unset, .unset, .unset, .unset, .unset, .unset] D_115 rfl rfl ?_
          refine wp_aload D_117 rfl rfl ?_
          refine wp_virtual (c_ap_100 l Z a0 hw a160 a155 x159 []) (exa_new (i := 0) rfl) D_119 (hw _ (List.mem_of_getElem? (i := 15) rfl)) (hw _ (List.mem_of_getElem? (i := 16) rfl)) (hw _ (List.mem_of_getElem? (i := 18) rfl)) (hw _ (List.mem_of_getElem? (i := 18) rfl)) (hw _ (List.mem_of_getElem? (i := 17) rfl)) (hw _ (List.mem_of_getElem? (i := 4) rfl)) (hw _ (List.mem_of_getElem? (i := 19) rfl)) (by decide) pd_2 rfl rfl rfl (Nat.le_of_ble_eq_true rfl) (Nat.le_of_ble_eq_true rfl) (Nat.le_of_ble_eq_true rfl) (Nat.le_of_ble_eq_true rfl) ?_
          rintro _ _ ⟨rfl, rfl⟩
          by_cases hR161 : x159 = 0
          · rw [if_pos hR161]
            show Wp none l Z "com/example/keyword_to_concept/keywordtoconcept/evaluation/RankedTopicAveragePrecisionPinLaw" "law" code maxLocals ret room_1 [(a160, oI "com/example/keyword_to_concept/keywordtoconcept/evaluation/RankedTopic" sg_1 [(.ref a155), (.int x159)]), (a155, oA .boolean [(1 : Int32), (0 : Int32), (0 : Int32)])] 2 5 122 #[.val (.int a), .val (.int b), .val (.int (3 : Int32)), .val (.int x2), .val (.int (1 : Int32)), .val (.int (0 : Int32)), .val (.int (0 : Int32)), .val (.ref a155), .val (.int x159), .val (.ref a160), .unset, .unset, .unset, .unset, .unset, .unset] [(.double (0 : UInt64))] Q_law
            refine wp_dstore #[.val (.int a), .val (.int b), .val (.int (3 : Int32)), .val (.int x2), .val (.int (1 : Int32)), .val (.int (0 : Int32)), .val (.int (0 : Int32)), .val (.ref a155), .val (.int x159), .val (.ref a160), .val (.double (0 : UInt64)), .second, .unset, .unset, .unset, .unset] D_122 rfl ?_
            refine wp_iload D_124 rfl ?_
            refine wp_iload D_126 rfl ?_
            refine wp_iload D_128 rfl ?_
            refine wp_callS (c_ps_100 l Z a0 hw [(a160, oI "com/example/keyword_to_concept/keywordtoconcept/evaluation/RankedTopic" sg_1 [(.ref a155), (.int x159)]), (a155, oA .boolean [(1 : Int32), (0 : Int32), (0 : Int32)])]) D_130 (hw _ (List.mem_of_getElem? (i := 20) rfl)) (hw _ (List.mem_of_getElem? (i := 21) rfl)) (hw _ (List.mem_of_getElem? (i := 22) rfl)) (hw _ (List.mem_of_getElem? (i := 23) rfl)) (by decide) pd_3 rfl rfl rfl (Nat.le_of_ble_eq_true rfl) (Nat.le_of_ble_eq_true rfl) (Nat.le_of_ble_eq_true rfl) (Nat.le_of_ble_eq_true rfl) ?_
            rintro _ _ ⟨rfl, rfl⟩
            show Wp none l Z "com/example/keyword_to_concept/keywordtoconcept/evaluation/RankedTopicAveragePrecisionPinLaw" "law" code maxLocals ret room_1 [(a160, oI "com/example/keyword_to_concept/keywordtoconcept/evaluation/RankedTopic" sg_1 [(.ref a155), (.int x159)]), (a155, oA .boolean [(1 : Int32), (0 : Int32), (0 : Int32)])] 2 5 133 #[.val (.int a), .val (.int b), .val (.int (3 : Int32)), .val (.int x2), .val (.int (1 : Int32)), .val (.int (0 : Int32)), .val (.int (0 : Int32)), .val (.ref a155), .val (.int x159), .val (.ref a160), .val (.double (0 : UInt64)), .second, .unset, .unset, .unset, .unset] [(.double (4607182418800017408 : UInt64))] Q_law
            refine wp_dstore #[.val (.int a), .val (.int b), .val (.int (3 : Int32)), .val (.int x2), .val (.int (1 : Int32)), .val (.int (0 : Int32)), .val (.int (0 : Int32)), .val (.ref a155), .val (.int x159), .val (.ref a160), .val (.double (0 : UInt64)), .second, .val (.double (4607182418800017408 : UInt64)), .second, .unset, .unset] D_133 rfl ?_
            refine wp_iload D_135 rfl ?_
            refine wp_if_ne D_137 (pc'' := 144) ⟨by decide, by decide⟩ (fun h162 => by exact absurd hR161 h162) (fun h162 => ?_)
            refine wp_dconst0 0 D_140 (by decide +kernel) ?_
            refine wp_goto D_141 (pc'' := 150) ⟨by decide, by decide⟩ ?_
            refine wp_dstore #[.val (.int a), .val (.int b), .val (.int (3 : Int32)), .val (.int x2), .val (.int (1 : Int32)), .val (.int (0 : Int32)), .val (.int (0 : Int32)), .val (.ref a155), .val (.int x159), .val (.ref a160), .val (.double (0 : UInt64)), .second, .val (.double (4607182418800017408 : UInt64)), .second, .val (.double (0 : UInt64)), .second] D_150 rfl ?_
            refine wp_dload D_152 rfl ?_
            refine wp_dload D_154 rfl ?_
            refine wp_dcmp (0 : Int32) D_156 (by decide +kernel) ?_
            refine wp_if_ne D_157 (pc'' := 164) ⟨by decide, by decide⟩ (fun h163 => by exact absurd h163 (by decide)) (fun h163 => ?_)
            refine wp_iconst 1 D_160 (by decide) ?_
            refine wp_goto D_161 (pc'' := 165) ⟨by decide, by decide⟩ ?_
            refine wp_ireturnN D_165 rfl (by simp) (by decide) (by decide) ?_
            exact rfl
          · rw [if_neg hR161]
            show Wp none l Z "com/example/keyword_to_concept/keywordtoconcept/evaluation/RankedTopicAveragePrecisionPinLaw" "law" code maxLocals ret room_1 [(a160, oI "com/example/keyword_to_concept/keywordtoconcept/evaluation/RankedTopic" sg_1 [(.ref a155), (.int x159)]), (a155, oA .boolean [(1 : Int32), (0 : Int32), (0 : Int32)])] 2 5 122 #[.val (.int a), .val (.int b), .val (.int (3 : Int32)), .val (.int x2), .val (.int (1 : Int32)), .val (.int (0 : Int32)), .val (.int (0 : Int32)), .val (.ref a155), .val (.int x159), .val (.ref a160), .unset, .unset, .unset, .unset, .unset, .unset] [(.double (FP.ddiv (4607182418800017408 : UInt64) (FP.i2d x159)))] Q_law
            refine wp_dstore #[.val (.int a), .val (.int b), .val (.int (3 : Int32)), .val (.int x2), .val (.int (1 : Int32)), .val (.int (0 : Int32)), .val (.int (0 : Int32)), .val (.ref a155), .val (.int x159), .val (.ref a160), .val (.double (FP.ddiv (4607182418800017408 : UInt64) (FP.i2d x159))), .second, .unset, .unset, .unset, .unset] D_122 rfl ?_
            refine wp_iload D_124 rfl ?_
            refine wp_iload D_126 rfl ?_
            refine wp_iload D_128 rfl ?_
            refine wp_callS (c_ps_100 l Z a0 hw [(a160, oI "com/example/keyword_to_concept/keywordtoconcept/evaluation/RankedTopic" sg_1 [(.ref a155), (.int x159)]), (a155, oA .boolean [(1 : Int32), (0 : Int32), (0 : Int32)])]) D_130 (hw _ (List.mem_of_getElem? (i := 20) rfl)) (hw _ (List.mem_of_getElem? (i := 21) rfl)) (hw _ (List.mem_of_getElem? (i := 22) rfl)) (hw _ (List.mem_of_getElem? (i := 23) rfl)) (by decide) pd_3 rfl rfl rfl (Nat.le_of_ble_eq_true rfl) (Nat.le_of_ble_eq_true rfl) (Nat.le_of_ble_eq_true rfl) (Nat.le_of_ble_eq_true rfl) ?_
            rintro _ _ ⟨rfl, rfl⟩
            show Wp none l Z "com/example/keyword_to_concept/keywordtoconcept/evaluation/RankedTopicAveragePrecisionPinLaw" "law" code maxLocals ret room_1 [(a160, oI "com/example/keyword_to_concept/keywordtoconcept/evaluation/RankedTopic" sg_1 [(.ref a155), (.int x159)]), (a155, oA .boolean [(1 : Int32), (0 : Int32), (0 : Int32)])] 2 5 133 #[.val (.int a), .val (.int b), .val (.int (3 : Int32)), .val (.int x2), .val (.int (1 : Int32)), .val (.int (0 : Int32)), .val (.int (0 : Int32)), .val (.ref a155), .val (.int x159), .val (.ref a160), .val (.double (FP.ddiv (4607182418800017408 : UInt64) (FP.i2d x159))), .second, .unset, .unset, .unset, .unset] [(.double (4607182418800017408 : UInt64))] Q_law
            refine wp_dstore #[.val (.int a), .val (.int b), .val (.int (3 : Int32)), .val (.int x2), .val (.int (1 : Int32)), .val (.int (0 : Int32)), .val (.int (0 : Int32)), .val (.ref a155), .val (.int x159), .val (.ref a160), .val (.double (FP.ddiv (4607182418800017408 : UInt64) (FP.i2d x159))), .second, .val (.double (4607182418800017408 : UInt64)), .second, .unset, .unset] D_133 rfl ?_
            refine wp_iload D_135 rfl ?_
            refine wp_if_ne D_137 (pc'' := 144) ⟨by decide, by decide⟩ (fun h164 => ?_) (fun h164 => by exact absurd h164 hR161)
            refine wp_dload D_144 rfl ?_
            refine wp_iload D_146 rfl ?_
            refine wp_i2d (FP.i2d x159) D_148 rfl ?_
            refine wp_ddiv (FP.ddiv (4607182418800017408 : UInt64) (FP.i2d x159)) D_149 (Jvm.Free.Fl.ddiv_out (by unfold Jvm.Free.Fl.NoNaN64; decide +kernel) (Jvm.Free.Fl.i2d_fin _) (Jvm.Free.Fl.i2d_nz hR161)) rfl ?_
            refine wp_dstore #[.val (.int a), .val (.int b), .val (.int (3 : Int32)), .val (.int x2), .val (.int (1 : Int32)), .val (.int (0 : Int32)), .val (.int (0 : Int32)), .val (.ref a155), .val (.int x159), .val (.ref a160), .val (.double (FP.ddiv (4607182418800017408 : UInt64) (FP.i2d x159))), .second, .val (.double (4607182418800017408 : UInt64)), .second, .val (.double (FP.ddiv (4607182418800017408 : UInt64) (FP.i2d x159))), .second] D_150 rfl ?_
            refine wp_dload D_152 rfl ?_
            refine wp_dload D_154 rfl ?_
            refine wp_dcmp (0 : Int32) D_156 (dcmpV_self (Jvm.Free.Fl.ddiv_out (by unfold Jvm.Free.Fl.NoNaN64; decide +kernel) (Jvm.Free.Fl.i2d_fin _) (Jvm.Free.Fl.i2d_nz hR161)) _) ?_
            refine wp_if_ne D_157 (pc'' := 164) ⟨by decide, by decide⟩ (fun h165 => by exact absurd h165 (by decide)) (fun h165 => ?_)
            refine wp_iconst 1 D_160 (by decide) ?_
            refine wp_goto D_161 (pc'' := 165) ⟨by decide, by decide⟩ ?_
            refine wp_ireturnN D_165 rfl (by simp) (by decide) (by decide) ?_
            exact rfl
        · skip
          refine wp_iconst 1 D_54 (by decide) ?_
          refine wp_goto D_55 (pc'' := 59) ⟨by decide, by decide⟩ ?_
          refine wp_istore #[.val (.int a), .val (.int b), .val (.int (3 : Int32)), .val (.int x2), .val (.int (1 : Int32)), .val (.int (0 : Int32)), .val (.int (1 : Int32)), .unset, .unset, .unset, .unset, .unset, .unset, .unset, .unset, .unset] D_59 rfl ?_
          refine wp_iload_n D_61 rfl ?_
          refine wp_newarrayI (n := (3 : Int32)) (3) 3 D_62 rfl rfl rfl (hw _ (List.mem_of_getElem? (i := 0) rfl)) (by decide) (by decide) (by decide) (by decide) (by decide) (by decide) ?_
          intro a166
          show Wp none l Z "com/example/keyword_to_concept/keywordtoconcept/evaluation/RankedTopicAveragePrecisionPinLaw" "law" code maxLocals ret room_1 [(a166, oA .boolean [(0 : Int32), (0 : Int32), (0 : Int32)])] 1 3 64 #[.val (.int a), .val (.int b), .val (.int (3 : Int32)), .val (.int x2), .val (.int (1 : Int32)), .val (.int (0 : Int32)), .val (.int (1 : Int32)), .unset, .unset, .unset, .unset, .unset, .unset, .unset, .unset, .unset] [(.ref a166)] Q_law
          refine wp_astore #[.val (.int a), .val (.int b), .val (.int (3 : Int32)), .val (.int x2), .val (.int (1 : Int32)), .val (.int (0 : Int32)), .val (.int (1 : Int32)), .val (.ref a166), .unset, .unset, .unset, .unset, .unset, .unset, .unset, .unset] D_64 rfl rfl ?_
          refine wp_iload_n D_66 rfl ?_
          refine wp_if_le D_67 (pc'' := 76) ⟨by decide, by decide⟩ (fun h167 => by exact absurd h167 (by decide)) (fun h167 => ?_)
          refine wp_aload D_70 rfl rfl ?_
          refine wp_iconst 0 D_72 (by decide) ?_
          refine wp_iload D_73 rfl ?_
          refine wp_zastore (i := 0) (0) D_75 rfl (by decide) (by decide) (by first | decide | exact Nat.le_of_ble_eq_true rfl | simp) ?_
          rw [show (nar .boolean (1 : Int32)) = (1 : Int32) from by decide]
          show Wp none l Z "com/example/keyword_to_concept/keywordtoconcept/evaluation/RankedTopicAveragePrecisionPinLaw" "law" code maxLocals ret room_1 [(a166, oA .boolean [(1 : Int32), (0 : Int32), (0 : Int32)])] 1 3 76 #[.val (.int a), .val (.int b), .val (.int (3 : Int32)), .val (.int x2), .val (.int (1 : Int32)), .val (.int (0 : Int32)), .val (.int (1 : Int32)), .val (.ref a166), .unset, .unset, .unset, .unset, .unset, .unset, .unset, .unset] [] Q_law
          refine wp_iload_n D_76 rfl ?_
          refine wp_iconst 1 D_77 (by decide) ?_
          refine wp_icmp_le D_78 (pc'' := 87) ⟨by decide, by decide⟩ (fun h168 => by exact absurd h168 (by decide)) (fun h168 => ?_)
          refine wp_aload D_81 rfl rfl ?_
          refine wp_iconst 1 D_83 (by decide) ?_
          refine wp_iload D_84 rfl ?_
          refine wp_zastore (i := 0) (1) D_86 rfl (by decide) (by decide) (by first | decide | exact Nat.le_of_ble_eq_true rfl | simp) ?_
          rw [show (nar .boolean (0 : Int32)) = (0 : Int32) from by decide]
          show Wp none l Z "com/example/keyword_to_concept/keywordtoconcept/evaluation/RankedTopicAveragePrecisionPinLaw" "law" code maxLocals ret room_1 [(a166, oA .boolean [(1 : Int32), (0 : Int32), (0 : Int32)])] 1 3 87 #[.val (.int a), .val (.int b), .val (.int (3 : Int32)), .val (.int x2), .val (.int (1 : Int32)), .val (.int (0 : Int32)), .val (.int (1 : Int32)), .val (.ref a166), .unset, .unset, .unset, .unset, .unset, .unset, .unset, .unset] [] Q_law
          refine wp_iload_n D_87 rfl ?_
          refine wp_iconst 2 D_88 (by decide) ?_
          refine wp_icmp_le D_89 (pc'' := 98) ⟨by decide, by decide⟩ (fun h169 => by exact absurd h169 (by decide)) (fun h169 => ?_)
          refine wp_aload D_92 rfl rfl ?_
          refine wp_iconst 2 D_94 (by decide) ?_
          refine wp_iload D_95 rfl ?_
          refine wp_zastore (i := 0) (2) D_97 rfl (by decide) (by decide) (by first | decide | exact Nat.le_of_ble_eq_true rfl | simp) ?_
          rw [show (nar .boolean (1 : Int32)) = (1 : Int32) from by decide]
          show Wp none l Z "com/example/keyword_to_concept/keywordtoconcept/evaluation/RankedTopicAveragePrecisionPinLaw" "law" code maxLocals ret room_1 [(a166, oA .boolean [(1 : Int32), (0 : Int32), (1 : Int32)])] 1 3 98 #[.val (.int a), .val (.int b), .val (.int (3 : Int32)), .val (.int x2), .val (.int (1 : Int32)), .val (.int (0 : Int32)), .val (.int (1 : Int32)), .val (.ref a166), .unset, .unset, .unset, .unset, .unset, .unset, .unset, .unset] [] Q_law
          refine wp_iload_n D_98 rfl ?_
          refine wp_ldcI D_99 (hw _ (List.mem_of_getElem? (i := 1) rfl)) ?_
          refine wp_iand D_101 ?_
          generalize hg_x170 : (b &&& (2147483647 : Int32)) = x170
          refine wp_istore #[.val (.int a), .val (.int b), .val (.int (3 : Int32)), .val (.int x2), .val (.int (1 : Int32)), .val (.int (0 : Int32)), .val (.int (1 : Int32)), .val (.ref a166), .val (.int x170), .unset, .unset, .unset, .unset, .unset, .unset, .unset] D_102 rfl ?_
          refine wp_new sg_1 [(.null), (.int (0 : Int32))] D_104 (hw _ (List.mem_of_getElem? (i := 2) rfl)) (hw _ (List.mem_of_getElem? (i := 3) rfl)) (hw _ (List.mem_of_getElem? (i := 4) rfl)) (laid_sg_1 l Z a0 hw) (by decide) dfl_sg_1 (by decide) (by decide) ?_
          intro a171
          show Wp none l Z "com/example/keyword_to_concept/keywordtoconcept/evaluation/RankedTopicAveragePrecisionPinLaw" "law" code maxLocals ret room_1 [(a171, oI "com/example/keyword_to_concept/keywordtoconcept/evaluation/RankedTopic" sg_1 [(.null), (.int (0 : Int32))]), (a166, oA .boolean [(1 : Int32), (0 : Int32), (1 : Int32)])] 2 5 107 #[.val (.int a), .val (.int b), .val (.int (3 : Int32)), .val (.int x2), .val (.int (1 : Int32)), .val (.int (0 : Int32)), .val (.int (1 : Int32)), .val (.ref a166), .val (.int x170), .unset, .unset, .unset, .unset, .unset, .unset, .unset] [(.ref a171)] Q_law
          refine wp_dup D_107 rfl ?_
          refine wp_aload D_108 rfl rfl ?_
          refine wp_iload D_110 rfl ?_
          refine wp_init (c_ini l Z a0 hw a171 a166 x170 [(a166, oA .boolean [(1 : Int32), (0 : Int32), (1 : Int32)])]) D_112 rfl (hw _ (List.mem_of_getElem? (i := 5) rfl)) (hw _ (List.mem_of_getElem? (i := 6) rfl)) (hw _ (List.mem_of_getElem? (i := 4) rfl)) (hw _ (List.mem_of_getElem? (i := 7) rfl)) (by decide) pd_1 rfl rfl rfl (Nat.le_of_ble_eq_true rfl) (Nat.le_of_ble_eq_true rfl) (Nat.le_of_ble_eq_true rfl) (Nat.le_of_ble_eq_true rfl) ?_
          rintro _ _ ⟨rfl, rfl⟩
          show Wp none l Z "com/example/keyword_to_concept/keywordtoconcept/evaluation/RankedTopicAveragePrecisionPinLaw" "law" code maxLocals ret room_1 [(a171, oI "com/example/keyword_to_concept/keywordtoconcept/evaluation/RankedTopic" sg_1 [(.ref a166), (.int x170)]), (a166, oA .boolean [(1 : Int32), (0 : Int32), (1 : Int32)])] 2 5 115 #[.val (.int a), .val (.int b), .val (.int (3 : Int32)), .val (.int x2), .val (.int (1 : Int32)), .val (.int (0 : Int32)), .val (.int (1 : Int32)), .val (.ref a166), .val (.int x170), .unset, .unset, .unset, .unset, .unset, .unset, .unset] [(.ref a171)] Q_law
          refine wp_astore #[.val (.int a), .val (.int b), .val (.int (3 : Int32)), .val (.int x2), .val (.int (1 : Int32)), .val (.int (0 : Int32)), .val (.int (1 : Int32)), .val (.ref a166), .val (.int x170), .val (.ref a171), .unset, .unset, .unset, .unset, .unset, .unset] D_115 rfl rfl ?_
          refine wp_aload D_117 rfl rfl ?_
          refine wp_virtual (c_ap_101 l Z a0 hw a171 a166 x170 []) (exa_new (i := 0) rfl) D_119 (hw _ (List.mem_of_getElem? (i := 15) rfl)) (hw _ (List.mem_of_getElem? (i := 16) rfl)) (hw _ (List.mem_of_getElem? (i := 18) rfl)) (hw _ (List.mem_of_getElem? (i := 18) rfl)) (hw _ (List.mem_of_getElem? (i := 17) rfl)) (hw _ (List.mem_of_getElem? (i := 4) rfl)) (hw _ (List.mem_of_getElem? (i := 19) rfl)) (by decide) pd_2 rfl rfl rfl (Nat.le_of_ble_eq_true rfl) (Nat.le_of_ble_eq_true rfl) (Nat.le_of_ble_eq_true rfl) (Nat.le_of_ble_eq_true rfl) ?_
          rintro _ _ ⟨rfl, rfl⟩
          by_cases hR172 : x170 = 0
          · rw [if_pos hR172]
            show Wp none l Z "com/example/keyword_to_concept/keywordtoconcept/evaluation/RankedTopicAveragePrecisionPinLaw" "law" code maxLocals ret room_1 [(a171, oI "com/example/keyword_to_concept/keywordtoconcept/evaluation/RankedTopic" sg_1 [(.ref a166), (.int x170)]), (a166, oA .boolean [(1 : Int32), (0 : Int32), (1 : Int32)])] 2 5 122 #[.val (.int a), .val (.int b), .val (.int (3 : Int32)), .val (.int x2), .val (.int (1 : Int32)), .val (.int (0 : Int32)), .val (.int (1 : Int32)), .val (.ref a166), .val (.int x170), .val (.ref a171), .unset, .unset, .unset, .unset, .unset, .unset] [(.double (0 : UInt64))] Q_law
            refine wp_dstore #[.val (.int a), .val (.int b), .val (.int (3 : Int32)), .val (.int x2), .val (.int (1 : Int32)), .val (.int (0 : Int32)), .val (.int (1 : Int32)), .val (.ref a166), .val (.int x170), .val (.ref a171), .val (.double (0 : UInt64)), .second, .unset, .unset, .unset, .unset] D_122 rfl ?_
            refine wp_iload D_124 rfl ?_
            refine wp_iload D_126 rfl ?_
            refine wp_iload D_128 rfl ?_
            refine wp_callS (c_ps_101 l Z a0 hw [(a171, oI "com/example/keyword_to_concept/keywordtoconcept/evaluation/RankedTopic" sg_1 [(.ref a166), (.int x170)]), (a166, oA .boolean [(1 : Int32), (0 : Int32), (1 : Int32)])]) D_130 (hw _ (List.mem_of_getElem? (i := 20) rfl)) (hw _ (List.mem_of_getElem? (i := 21) rfl)) (hw _ (List.mem_of_getElem? (i := 22) rfl)) (hw _ (List.mem_of_getElem? (i := 23) rfl)) (by decide) pd_3 rfl rfl rfl (Nat.le_of_ble_eq_true rfl) (Nat.le_of_ble_eq_true rfl) (Nat.le_of_ble_eq_true rfl) (Nat.le_of_ble_eq_true rfl) ?_
            rintro _ _ ⟨rfl, rfl⟩
            show Wp none l Z "com/example/keyword_to_concept/keywordtoconcept/evaluation/RankedTopicAveragePrecisionPinLaw" "law" code maxLocals ret room_1 [(a171, oI "com/example/keyword_to_concept/keywordtoconcept/evaluation/RankedTopic" sg_1 [(.ref a166), (.int x170)]), (a166, oA .boolean [(1 : Int32), (0 : Int32), (1 : Int32)])] 2 5 133 #[.val (.int a), .val (.int b), .val (.int (3 : Int32)), .val (.int x2), .val (.int (1 : Int32)), .val (.int (0 : Int32)), .val (.int (1 : Int32)), .val (.ref a166), .val (.int x170), .val (.ref a171), .val (.double (0 : UInt64)), .second, .unset, .unset, .unset, .unset] [(.double (4610184818551597738 : UInt64))] Q_law
            refine wp_dstore #[.val (.int a), .val (.int b), .val (.int (3 : Int32)), .val (.int x2), .val (.int (1 : Int32)), .val (.int (0 : Int32)), .val (.int (1 : Int32)), .val (.ref a166), .val (.int x170), .val (.ref a171), .val (.double (0 : UInt64)), .second, .val (.double (4610184818551597738 : UInt64)), .second, .unset, .unset] D_133 rfl ?_
            refine wp_iload D_135 rfl ?_
            refine wp_if_ne D_137 (pc'' := 144) ⟨by decide, by decide⟩ (fun h173 => by exact absurd hR172 h173) (fun h173 => ?_)
            refine wp_dconst0 0 D_140 (by decide +kernel) ?_
            refine wp_goto D_141 (pc'' := 150) ⟨by decide, by decide⟩ ?_
            refine wp_dstore #[.val (.int a), .val (.int b), .val (.int (3 : Int32)), .val (.int x2), .val (.int (1 : Int32)), .val (.int (0 : Int32)), .val (.int (1 : Int32)), .val (.ref a166), .val (.int x170), .val (.ref a171), .val (.double (0 : UInt64)), .second, .val (.double (4610184818551597738 : UInt64)), .second, .val (.double (0 : UInt64)), .second] D_150 rfl ?_
            refine wp_dload D_152 rfl ?_
            refine wp_dload D_154 rfl ?_
            refine wp_dcmp (0 : Int32) D_156 (by decide +kernel) ?_
            refine wp_if_ne D_157 (pc'' := 164) ⟨by decide, by decide⟩ (fun h174 => by exact absurd h174 (by decide)) (fun h174 => ?_)
            refine wp_iconst 1 D_160 (by decide) ?_
            refine wp_goto D_161 (pc'' := 165) ⟨by decide, by decide⟩ ?_
            refine wp_ireturnN D_165 rfl (by simp) (by decide) (by decide) ?_
            exact rfl
          · rw [if_neg hR172]
            show Wp none l Z "com/example/keyword_to_concept/keywordtoconcept/evaluation/RankedTopicAveragePrecisionPinLaw" "law" code maxLocals ret room_1 [(a171, oI "com/example/keyword_to_concept/keywordtoconcept/evaluation/RankedTopic" sg_1 [(.ref a166), (.int x170)]), (a166, oA .boolean [(1 : Int32), (0 : Int32), (1 : Int32)])] 2 5 122 #[.val (.int a), .val (.int b), .val (.int (3 : Int32)), .val (.int x2), .val (.int (1 : Int32)), .val (.int (0 : Int32)), .val (.int (1 : Int32)), .val (.ref a166), .val (.int x170), .val (.ref a171), .unset, .unset, .unset, .unset, .unset, .unset] [(.double (FP.ddiv (4610184818551597738 : UInt64) (FP.i2d x170)))] Q_law
            refine wp_dstore #[.val (.int a), .val (.int b), .val (.int (3 : Int32)), .val (.int x2), .val (.int (1 : Int32)), .val (.int (0 : Int32)), .val (.int (1 : Int32)), .val (.ref a166), .val (.int x170), .val (.ref a171), .val (.double (FP.ddiv (4610184818551597738 : UInt64) (FP.i2d x170))), .second, .unset, .unset, .unset, .unset] D_122 rfl ?_
            refine wp_iload D_124 rfl ?_
            refine wp_iload D_126 rfl ?_
            refine wp_iload D_128 rfl ?_
            refine wp_callS (c_ps_101 l Z a0 hw [(a171, oI "com/example/keyword_to_concept/keywordtoconcept/evaluation/RankedTopic" sg_1 [(.ref a166), (.int x170)]), (a166, oA .boolean [(1 : Int32), (0 : Int32), (1 : Int32)])]) D_130 (hw _ (List.mem_of_getElem? (i := 20) rfl)) (hw _ (List.mem_of_getElem? (i := 21) rfl)) (hw _ (List.mem_of_getElem? (i := 22) rfl)) (hw _ (List.mem_of_getElem? (i := 23) rfl)) (by decide) pd_3 rfl rfl rfl (Nat.le_of_ble_eq_true rfl) (Nat.le_of_ble_eq_true rfl) (Nat.le_of_ble_eq_true rfl) (Nat.le_of_ble_eq_true rfl) ?_
            rintro _ _ ⟨rfl, rfl⟩
            show Wp none l Z "com/example/keyword_to_concept/keywordtoconcept/evaluation/RankedTopicAveragePrecisionPinLaw" "law" code maxLocals ret room_1 [(a171, oI "com/example/keyword_to_concept/keywordtoconcept/evaluation/RankedTopic" sg_1 [(.ref a166), (.int x170)]), (a166, oA .boolean [(1 : Int32), (0 : Int32), (1 : Int32)])] 2 5 133 #[.val (.int a), .val (.int b), .val (.int (3 : Int32)), .val (.int x2), .val (.int (1 : Int32)), .val (.int (0 : Int32)), .val (.int (1 : Int32)), .val (.ref a166), .val (.int x170), .val (.ref a171), .val (.double (FP.ddiv (4610184818551597738 : UInt64) (FP.i2d x170))), .second, .unset, .unset, .unset, .unset] [(.double (4610184818551597738 : UInt64))] Q_law
            refine wp_dstore #[.val (.int a), .val (.int b), .val (.int (3 : Int32)), .val (.int x2), .val (.int (1 : Int32)), .val (.int (0 : Int32)), .val (.int (1 : Int32)), .val (.ref a166), .val (.int x170), .val (.ref a171), .val (.double (FP.ddiv (4610184818551597738 : UInt64) (FP.i2d x170))), .second, .val (.double (4610184818551597738 : UInt64)), .second, .unset, .unset] D_133 rfl ?_
            refine wp_iload D_135 rfl ?_
            refine wp_if_ne D_137 (pc'' := 144) ⟨by decide, by decide⟩ (fun h175 => ?_) (fun h175 => by exact absurd h175 hR172)
            refine wp_dload D_144 rfl ?_
            refine wp_iload D_146 rfl ?_
            refine wp_i2d (FP.i2d x170) D_148 rfl ?_
            refine wp_ddiv (FP.ddiv (4610184818551597738 : UInt64) (FP.i2d x170)) D_149 (Jvm.Free.Fl.ddiv_out (by unfold Jvm.Free.Fl.NoNaN64; decide +kernel) (Jvm.Free.Fl.i2d_fin _) (Jvm.Free.Fl.i2d_nz hR172)) rfl ?_
            refine wp_dstore #[.val (.int a), .val (.int b), .val (.int (3 : Int32)), .val (.int x2), .val (.int (1 : Int32)), .val (.int (0 : Int32)), .val (.int (1 : Int32)), .val (.ref a166), .val (.int x170), .val (.ref a171), .val (.double (FP.ddiv (4610184818551597738 : UInt64) (FP.i2d x170))), .second, .val (.double (4610184818551597738 : UInt64)), .second, .val (.double (FP.ddiv (4610184818551597738 : UInt64) (FP.i2d x170))), .second] D_150 rfl ?_
            refine wp_dload D_152 rfl ?_
            refine wp_dload D_154 rfl ?_
            refine wp_dcmp (0 : Int32) D_156 (dcmpV_self (Jvm.Free.Fl.ddiv_out (by unfold Jvm.Free.Fl.NoNaN64; decide +kernel) (Jvm.Free.Fl.i2d_fin _) (Jvm.Free.Fl.i2d_nz hR172)) _) ?_
            refine wp_if_ne D_157 (pc'' := 164) ⟨by decide, by decide⟩ (fun h176 => by exact absurd h176 (by decide)) (fun h176 => ?_)
            refine wp_iconst 1 D_160 (by decide) ?_
            refine wp_goto D_161 (pc'' := 165) ⟨by decide, by decide⟩ ?_
            refine wp_ireturnN D_165 rfl (by simp) (by decide) (by decide) ?_
            exact rfl
      · skip
        refine wp_iconst 1 D_36 (by decide) ?_
        refine wp_goto D_37 (pc'' := 41) ⟨by decide, by decide⟩ ?_
        refine wp_istore #[.val (.int a), .val (.int b), .val (.int (3 : Int32)), .val (.int x2), .val (.int (1 : Int32)), .val (.int (1 : Int32)), .unset, .unset, .unset, .unset, .unset, .unset, .unset, .unset, .unset, .unset] D_41 rfl ?_
        refine wp_iload_n D_43 rfl ?_
        refine wp_iconst 2 D_44 (by decide) ?_
        refine wp_icmp_le D_45 (pc'' := 58) ⟨by decide, by decide⟩ (fun h177 => by exact absurd h177 (by decide)) (fun h177 => ?_)
        refine wp_iload_n D_48 rfl ?_
        refine wp_iconst 4 D_49 (by decide) ?_
        refine wp_iand D_50 ?_
        refine wp_if_eq D_51 (pc'' := 58) ⟨by decide, by decide⟩ (fun h178 => ?_) (fun h178 => ?_)
        · skip
          refine wp_iconst 0 D_58 (by decide) ?_
          refine wp_istore #[.val (.int a), .val (.int b), .val (.int (3 : Int32)), .val (.int x2), .val (.int (1 : Int32)), .val (.int (1 : Int32)), .val (.int (0 : Int32)), .unset, .unset, .unset, .unset, .unset, .unset, .unset, .unset, .unset] D_59 rfl ?_
          refine wp_iload_n D_61 rfl ?_
          refine wp_newarrayI (n := (3 : Int32)) (3) 3 D_62 rfl rfl rfl (hw _ (List.mem_of_getElem? (i := 0) rfl)) (by decide) (by decide) (by decide) (by decide) (by decide) (by decide) ?_
          intro a179
          show Wp none l Z "com/example/keyword_to_concept/keywordtoconcept/evaluation/RankedTopicAveragePrecisionPinLaw" "law" code maxLocals ret room_1 [(a179, oA .boolean [(0 : Int32), (0 : Int32), (0 : Int32)])] 1 3 64 #[.val (.int a), .val (.int b), .val (.int (3 : Int32)), .val (.int x2), .val (.int (1 : Int32)), .val (.int (1 : Int32)), .val (.int (0 : Int32)), .unset, .unset, .unset, .unset, .unset, .unset, .unset, .unset, .unset] [(.ref a179)] Q_law
          refine wp_astore #[.val (.int a), .val (.int b), .val (.int (3 : Int32)), .val (.int x2), .val (.int (1 : Int32)), .val (.int (1 : Int32)), .val (.int (0 : Int32)), .val (.ref a179), .unset, .unset, .unset, .unset, .unset, .unset, .unset, .unset] D_64 rfl rfl ?_
          refine wp_iload_n D_66 rfl ?_
          refine wp_if_le D_67 (pc'' := 76) ⟨by decide, by decide⟩ (fun h180 => by exact absurd h180 (by decide)) (fun h180 => ?_)
          refine wp_aload D_70 rfl rfl ?_
          refine wp_iconst 0 D_72 (by decide) ?_
          refine wp_iload D_73 rfl ?_
          refine wp_zastore (i := 0) (0) D_75 rfl (by decide) (by decide) (by first | decide | exact Nat.le_of_ble_eq_true rfl | simp) ?_
          rw [show (nar .boolean (1 : Int32)) = (1 : Int32) from by decide]
          show Wp none l Z "com/example/keyword_to_concept/keywordtoconcept/evaluation/RankedTopicAveragePrecisionPinLaw" "law" code maxLocals ret room_1 [(a179, oA .boolean [(1 : Int32), (0 : Int32), (0 : Int32)])] 1 3 76 #[.val (.int a), .val (.int b), .val (.int (3 : Int32)), .val (.int x2), .val (.int (1 : Int32)), .val (.int (1 : Int32)), .val (.int (0 : Int32)), .val (.ref a179), .unset, .unset, .unset, .unset, .unset, .unset, .unset, .unset] [] Q_law
          refine wp_iload_n D_76 rfl ?_
          refine wp_iconst 1 D_77 (by decide) ?_
          refine wp_icmp_le D_78 (pc'' := 87) ⟨by decide, by decide⟩ (fun h181 => by exact absurd h181 (by decide)) (fun h181 => ?_)
          refine wp_aload D_81 rfl rfl ?_
          refine wp_iconst 1 D_83 (by decide) ?_
          refine wp_iload D_84 rfl ?_
          refine wp_zastore (i := 0) (1) D_86 rfl (by decide) (by decide) (by first | decide | exact Nat.le_of_ble_eq_true rfl | simp) ?_
          rw [show (nar .boolean (1 : Int32)) = (1 : Int32) from by decide]
          show Wp none l Z "com/example/keyword_to_concept/keywordtoconcept/evaluation/RankedTopicAveragePrecisionPinLaw" "law" code maxLocals ret room_1 [(a179, oA .boolean [(1 : Int32), (1 : Int32), (0 : Int32)])] 1 3 87 #[.val (.int a), .val (.int b), .val (.int (3 : Int32)), .val (.int x2), .val (.int (1 : Int32)), .val (.int (1 : Int32)), .val (.int (0 : Int32)), .val (.ref a179), .unset, .unset, .unset, .unset, .unset, .unset, .unset, .unset] [] Q_law
          refine wp_iload_n D_87 rfl ?_
          refine wp_iconst 2 D_88 (by decide) ?_
          refine wp_icmp_le D_89 (pc'' := 98) ⟨by decide, by decide⟩ (fun h182 => by exact absurd h182 (by decide)) (fun h182 => ?_)
          refine wp_aload D_92 rfl rfl ?_
          refine wp_iconst 2 D_94 (by decide) ?_
          refine wp_iload D_95 rfl ?_
          refine wp_zastore (i := 0) (2) D_97 rfl (by decide) (by decide) (by first | decide | exact Nat.le_of_ble_eq_true rfl | simp) ?_
          rw [show (nar .boolean (0 : Int32)) = (0 : Int32) from by decide]
          show Wp none l Z "com/example/keyword_to_concept/keywordtoconcept/evaluation/RankedTopicAveragePrecisionPinLaw" "law" code maxLocals ret room_1 [(a179, oA .boolean [(1 : Int32), (1 : Int32), (0 : Int32)])] 1 3 98 #[.val (.int a), .val (.int b), .val (.int (3 : Int32)), .val (.int x2), .val (.int (1 : Int32)), .val (.int (1 : Int32)), .val (.int (0 : Int32)), .val (.ref a179), .unset, .unset, .unset, .unset, .unset, .unset, .unset, .unset] [] Q_law
          refine wp_iload_n D_98 rfl ?_
          refine wp_ldcI D_99 (hw _ (List.mem_of_getElem? (i := 1) rfl)) ?_
          refine wp_iand D_101 ?_
          generalize hg_x183 : (b &&& (2147483647 : Int32)) = x183
          refine wp_istore #[.val (.int a), .val (.int b), .val (.int (3 : Int32)), .val (.int x2), .val (.int (1 : Int32)), .val (.int (1 : Int32)), .val (.int (0 : Int32)), .val (.ref a179), .val (.int x183), .unset, .unset, .unset, .unset, .unset, .unset, .unset] D_102 rfl ?_
          refine wp_new sg_1 [(.null), (.int (0 : Int32))] D_104 (hw _ (List.mem_of_getElem? (i := 2) rfl)) (hw _ (List.mem_of_getElem? (i := 3) rfl)) (hw _ (List.mem_of_getElem? (i := 4) rfl)) (laid_sg_1 l Z a0 hw) (by decide) dfl_sg_1 (by decide) (by decide) ?_
          intro a184
          show Wp none l Z "com/example/keyword_to_concept/keywordtoconcept/evaluation/RankedTopicAveragePrecisionPinLaw" "law" code maxLocals ret room_1 [(a184, oI "com/example/keyword_to_concept/keywordtoconcept/evaluation/RankedTopic" sg_1 [(.null), (.int (0 : Int32))]), (a179, oA .boolean [(1 : Int32), (1 : Int32), (0 : Int32)])] 2 5 107 #[.val (.int a), .val (.int b), .val (.int (3 : Int32)), .val (.int x2), .val (.int (1 : Int32)), .val (.int (1 : Int32)), .val (.int (0 : Int32)), .val (.ref a179), .val (.int x183), .unset, .unset, .unset, .unset, .unset, .unset, .unset] [(.ref a184)] Q_law
          refine wp_dup D_107 rfl ?_
          refine wp_aload D_108 rfl rfl ?_
          refine wp_iload D_110 rfl ?_
          refine wp_init (c_ini l Z a0 hw a184 a179 x183 [(a179, oA .boolean [(1 : Int32), (1 : Int32), (0 : Int32)])]) D_112 rfl (hw _ (List.mem_of_getElem? (i := 5) rfl)) (hw _ (List.mem_of_getElem? (i := 6) rfl)) (hw _ (List.mem_of_getElem? (i := 4) rfl)) (hw _ (List.mem_of_getElem? (i := 7) rfl)) (by decide) pd_1 rfl rfl rfl (Nat.le_of_ble_eq_true rfl) (Nat.le_of_ble_eq_true rfl) (Nat.le_of_ble_eq_true rfl) (Nat.le_of_ble_eq_true rfl) ?_
          rintro _ _ ⟨rfl, rfl⟩
          show Wp none l Z "com/example/keyword_to_concept/keywordtoconcept/evaluation/RankedTopicAveragePrecisionPinLaw" "law" code maxLocals ret room_1 [(a184, oI "com/example/keyword_to_concept/keywordtoconcept/evaluation/RankedTopic" sg_1 [(.ref a179), (.int x183)]), (a179, oA .boolean [(1 : Int32), (1 : Int32), (0 : Int32)])] 2 5 115 #[.val (.int a), .val (.int b), .val (.int (3 : Int32)), .val (.int x2), .val (.int (1 : Int32)), .val (.int (1 : Int32)), .val (.int (0 : Int32)), .val (.ref a179), .val (.int x183), .unset, .unset, .unset, .unset, .unset, .unset, .unset] [(.ref a184)] Q_law
          refine wp_astore #[.val (.int a), .val (.int b), .val (.int (3 : Int32)), .val (.int x2), .val (.int (1 : Int32)), .val (.int (1 : Int32)), .val (.int (0 : Int32)), .val (.ref a179), .val (.int x183), .val (.ref a184), .unset, .unset, .unset, .unset, .unset, .unset] D_115 rfl rfl ?_
          refine wp_aload D_117 rfl rfl ?_
          refine wp_virtual (c_ap_110 l Z a0 hw a184 a179 x183 []) (exa_new (i := 0) rfl) D_119 (hw _ (List.mem_of_getElem? (i := 15) rfl)) (hw _ (List.mem_of_getElem? (i := 16) rfl)) (hw _ (List.mem_of_getElem? (i := 18) rfl)) (hw _ (List.mem_of_getElem? (i := 18) rfl)) (hw _ (List.mem_of_getElem? (i := 17) rfl)) (hw _ (List.mem_of_getElem? (i := 4) rfl)) (hw _ (List.mem_of_getElem? (i := 19) rfl)) (by decide) pd_2 rfl rfl rfl (Nat.le_of_ble_eq_true rfl) (Nat.le_of_ble_eq_true rfl) (Nat.le_of_ble_eq_true rfl) (Nat.le_of_ble_eq_true rfl) ?_
          rintro _ _ ⟨rfl, rfl⟩
          by_cases hR185 : x183 = 0
          · rw [if_pos hR185]
            show Wp none l Z "com/example/keyword_to_concept/keywordtoconcept/evaluation/RankedTopicAveragePrecisionPinLaw" "law" code maxLocals ret room_1 [(a184, oI "com/example/keyword_to_concept/keywordtoconcept/evaluation/RankedTopic" sg_1 [(.ref a179), (.int x183)]), (a179, oA .boolean [(1 : Int32), (1 : Int32), (0 : Int32)])] 2 5 122 #[.val (.int a), .val (.int b), .val (.int (3 : Int32)), .val (.int x2), .val (.int (1 : Int32)), .val (.int (1 : Int32)), .val (.int (0 : Int32)), .val (.ref a179), .val (.int x183), .val (.ref a184), .unset, .unset, .unset, .unset, .unset, .unset] [(.double (0 : UInt64))] Q_law
            refine wp_dstore #[.val (.int a), .val (.int b), .val (.int (3 : Int32)), .val (.int x2), .val (.int (1 : Int32)), .val (.int (1 : Int32)), .val (.int (0 : Int32)), .val (.ref a179), .val (.int x183), .val (.ref a184), .val (.double (0 : UInt64)), .second, .unset, .unset, .unset, .unset] D_122 rfl ?_
            refine wp_iload D_124 rfl ?_
            refine wp_iload D_126 rfl ?_
            refine wp_iload D_128 rfl ?_
            refine wp_callS (c_ps_110 l Z a0 hw [(a184, oI "com/example/keyword_to_concept/keywordtoconcept/evaluation/RankedTopic" sg_1 [(.ref a179), (.int x183)]), (a179, oA .boolean [(1 : Int32), (1 : Int32), (0 : Int32)])]) D_130 (hw _ (List.mem_of_getElem? (i := 20) rfl)) (hw _ (List.mem_of_getElem? (i := 21) rfl)) (hw _ (List.mem_of_getElem? (i := 22) rfl)) (hw _ (List.mem_of_getElem? (i := 23) rfl)) (by decide) pd_3 rfl rfl rfl (Nat.le_of_ble_eq_true rfl) (Nat.le_of_ble_eq_true rfl) (Nat.le_of_ble_eq_true rfl) (Nat.le_of_ble_eq_true rfl) ?_
            rintro _ _ ⟨rfl, rfl⟩
            show Wp none l Z "com/example/keyword_to_concept/keywordtoconcept/evaluation/RankedTopicAveragePrecisionPinLaw" "law" code maxLocals ret room_1 [(a184, oI "com/example/keyword_to_concept/keywordtoconcept/evaluation/RankedTopic" sg_1 [(.ref a179), (.int x183)]), (a179, oA .boolean [(1 : Int32), (1 : Int32), (0 : Int32)])] 2 5 133 #[.val (.int a), .val (.int b), .val (.int (3 : Int32)), .val (.int x2), .val (.int (1 : Int32)), .val (.int (1 : Int32)), .val (.int (0 : Int32)), .val (.ref a179), .val (.int x183), .val (.ref a184), .val (.double (0 : UInt64)), .second, .unset, .unset, .unset, .unset] [(.double (4611686018427387904 : UInt64))] Q_law
            refine wp_dstore #[.val (.int a), .val (.int b), .val (.int (3 : Int32)), .val (.int x2), .val (.int (1 : Int32)), .val (.int (1 : Int32)), .val (.int (0 : Int32)), .val (.ref a179), .val (.int x183), .val (.ref a184), .val (.double (0 : UInt64)), .second, .val (.double (4611686018427387904 : UInt64)), .second, .unset, .unset] D_133 rfl ?_
            refine wp_iload D_135 rfl ?_
            refine wp_if_ne D_137 (pc'' := 144) ⟨by decide, by decide⟩ (fun h186 => by exact absurd hR185 h186) (fun h186 => ?_)
            refine wp_dconst0 0 D_140 (by decide +kernel) ?_
            refine wp_goto D_141 (pc'' := 150) ⟨by decide, by decide⟩ ?_
            refine wp_dstore #[.val (.int a), .val (.int b), .val (.int (3 : Int32)), .val (.int x2), .val (.int (1 : Int32)), .val (.int (1 : Int32)), .val (.int (0 : Int32)), .val (.ref a179), .val (.int x183), .val (.ref a184), .val (.double (0 : UInt64)), .second, .val (.double (4611686018427387904 : UInt64)), .second, .val (.double (0 : UInt64)), .second] D_150 rfl ?_
            refine wp_dload D_152 rfl ?_
            refine wp_dload D_154 rfl ?_
            refine wp_dcmp (0 : Int32) D_156 (by decide +kernel) ?_
            refine wp_if_ne D_157 (pc'' := 164) ⟨by decide, by decide⟩ (fun h187 => by exact absurd h187 (by decide)) (fun h187 => ?_)
            refine wp_iconst 1 D_160 (by decide) ?_
            refine wp_goto D_161 (pc'' := 165) ⟨by decide, by decide⟩ ?_
            refine wp_ireturnN D_165 rfl (by simp) (by decide) (by decide) ?_
            exact rfl
          · rw [if_neg hR185]
            show Wp none l Z "com/example/keyword_to_concept/keywordtoconcept/evaluation/RankedTopicAveragePrecisionPinLaw" "law" code maxLocals ret room_1 [(a184, oI "com/example/keyword_to_concept/keywordtoconcept/evaluation/RankedTopic" sg_1 [(.ref a179), (.int x183)]), (a179, oA .boolean [(1 : Int32), (1 : Int32), (0 : Int32)])] 2 5 122 #[.val (.int a), .val (.int b), .val (.int (3 : Int32)), .val (.int x2), .val (.int (1 : Int32)), .val (.int (1 : Int32)), .val (.int (0 : Int32)), .val (.ref a179), .val (.int x183), .val (.ref a184), .unset, .unset, .unset, .unset, .unset, .unset] [(.double (FP.ddiv (4611686018427387904 : UInt64) (FP.i2d x183)))] Q_law
            refine wp_dstore #[.val (.int a), .val (.int b), .val (.int (3 : Int32)), .val (.int x2), .val (.int (1 : Int32)), .val (.int (1 : Int32)), .val (.int (0 : Int32)), .val (.ref a179), .val (.int x183), .val (.ref a184), .val (.double (FP.ddiv (4611686018427387904 : UInt64) (FP.i2d x183))), .second, .unset, .unset, .unset, .unset] D_122 rfl ?_
            refine wp_iload D_124 rfl ?_
            refine wp_iload D_126 rfl ?_
            refine wp_iload D_128 rfl ?_
            refine wp_callS (c_ps_110 l Z a0 hw [(a184, oI "com/example/keyword_to_concept/keywordtoconcept/evaluation/RankedTopic" sg_1 [(.ref a179), (.int x183)]), (a179, oA .boolean [(1 : Int32), (1 : Int32), (0 : Int32)])]) D_130 (hw _ (List.mem_of_getElem? (i := 20) rfl)) (hw _ (List.mem_of_getElem? (i := 21) rfl)) (hw _ (List.mem_of_getElem? (i := 22) rfl)) (hw _ (List.mem_of_getElem? (i := 23) rfl)) (by decide) pd_3 rfl rfl rfl (Nat.le_of_ble_eq_true rfl) (Nat.le_of_ble_eq_true rfl) (Nat.le_of_ble_eq_true rfl) (Nat.le_of_ble_eq_true rfl) ?_
            rintro _ _ ⟨rfl, rfl⟩
            show Wp none l Z "com/example/keyword_to_concept/keywordtoconcept/evaluation/RankedTopicAveragePrecisionPinLaw" "law" code maxLocals ret room_1 [(a184, oI "com/example/keyword_to_concept/keywordtoconcept/evaluation/RankedTopic" sg_1 [(.ref a179), (.int x183)]), (a179, oA .boolean [(1 : Int32), (1 : Int32), (0 : Int32)])] 2 5 133 #[.val (.int a), .val (.int b), .val (.int (3 : Int32)), .val (.int x2), .val (.int (1 : Int32)), .val (.int (1 : Int32)), .val (.int (0 : Int32)), .val (.ref a179), .val (.int x183), .val (.ref a184), .val (.double (FP.ddiv (4611686018427387904 : UInt64) (FP.i2d x183))), .second, .unset, .unset, .unset, .unset] [(.double (4611686018427387904 : UInt64))] Q_law
            refine wp_dstore #[.val (.int a), .val (.int b), .val (.int (3 : Int32)), .val (.int x2), .val (.int (1 : Int32)), .val (.int (1 : Int32)), .val (.int (0 : Int32)), .val (.ref a179), .val (.int x183), .val (.ref a184), .val (.double (FP.ddiv (4611686018427387904 : UInt64) (FP.i2d x183))), .second, .val (.double (4611686018427387904 : UInt64)), .second, .unset, .unset] D_133 rfl ?_
            refine wp_iload D_135 rfl ?_
            refine wp_if_ne D_137 (pc'' := 144) ⟨by decide, by decide⟩ (fun h188 => ?_) (fun h188 => by exact absurd h188 hR185)
            refine wp_dload D_144 rfl ?_
            refine wp_iload D_146 rfl ?_
            refine wp_i2d (FP.i2d x183) D_148 rfl ?_
            refine wp_ddiv (FP.ddiv (4611686018427387904 : UInt64) (FP.i2d x183)) D_149 (Jvm.Free.Fl.ddiv_out (by unfold Jvm.Free.Fl.NoNaN64; decide +kernel) (Jvm.Free.Fl.i2d_fin _) (Jvm.Free.Fl.i2d_nz hR185)) rfl ?_
            refine wp_dstore #[.val (.int a), .val (.int b), .val (.int (3 : Int32)), .val (.int x2), .val (.int (1 : Int32)), .val (.int (1 : Int32)), .val (.int (0 : Int32)), .val (.ref a179), .val (.int x183), .val (.ref a184), .val (.double (FP.ddiv (4611686018427387904 : UInt64) (FP.i2d x183))), .second, .val (.double (4611686018427387904 : UInt64)), .second, .val (.double (FP.ddiv (4611686018427387904 : UInt64) (FP.i2d x183))), .second] D_150 rfl ?_
            refine wp_dload D_152 rfl ?_
            refine wp_dload D_154 rfl ?_
            refine wp_dcmp (0 : Int32) D_156 (dcmpV_self (Jvm.Free.Fl.ddiv_out (by unfold Jvm.Free.Fl.NoNaN64; decide +kernel) (Jvm.Free.Fl.i2d_fin _) (Jvm.Free.Fl.i2d_nz hR185)) _) ?_
            refine wp_if_ne D_157 (pc'' := 164) ⟨by decide, by decide⟩ (fun h189 => by exact absurd h189 (by decide)) (fun h189 => ?_)
            refine wp_iconst 1 D_160 (by decide) ?_
            refine wp_goto D_161 (pc'' := 165) ⟨by decide, by decide⟩ ?_
            refine wp_ireturnN D_165 rfl (by simp) (by decide) (by decide) ?_
            exact rfl
        · skip
          refine wp_iconst 1 D_54 (by decide) ?_
          refine wp_goto D_55 (pc'' := 59) ⟨by decide, by decide⟩ ?_
          refine wp_istore #[.val (.int a), .val (.int b), .val (.int (3 : Int32)), .val (.int x2), .val (.int (1 : Int32)), .val (.int (1 : Int32)), .val (.int (1 : Int32)), .unset, .unset, .unset, .unset, .unset, .unset, .unset, .unset, .unset] D_59 rfl ?_
          refine wp_iload_n D_61 rfl ?_
          refine wp_newarrayI (n := (3 : Int32)) (3) 3 D_62 rfl rfl rfl (hw _ (List.mem_of_getElem? (i := 0) rfl)) (by decide) (by decide) (by decide) (by decide) (by decide) (by decide) ?_
          intro a190
          show Wp none l Z "com/example/keyword_to_concept/keywordtoconcept/evaluation/RankedTopicAveragePrecisionPinLaw" "law" code maxLocals ret room_1 [(a190, oA .boolean [(0 : Int32), (0 : Int32), (0 : Int32)])] 1 3 64 #[.val (.int a), .val (.int b), .val (.int (3 : Int32)), .val (.int x2), .val (.int (1 : Int32)), .val (.int (1 : Int32)), .val (.int (1 : Int32)), .unset, .unset, .unset, .unset, .unset, .unset, .unset, .unset, .unset] [(.ref a190)] Q_law
          refine wp_astore #[.val (.int a), .val (.int b), .val (.int (3 : Int32)), .val (.int x2), .val (.int (1 : Int32)), .val (.int (1 : Int32)), .val (.int (1 : Int32)), .val (.ref a190), .unset, .unset, .unset, .unset, .unset, .unset, .unset, .unset] D_64 rfl rfl ?_
          refine wp_iload_n D_66 rfl ?_
          refine wp_if_le D_67 (pc'' := 76) ⟨by decide, by decide⟩ (fun h191 => by exact absurd h191 (by decide)) (fun h191 => ?_)
          refine wp_aload D_70 rfl rfl ?_
          refine wp_iconst 0 D_72 (by decide) ?_
          refine wp_iload D_73 rfl ?_
          refine wp_zastore (i := 0) (0) D_75 rfl (by decide) (by decide) (by first | decide | exact Nat.le_of_ble_eq_true rfl | simp) ?_
          rw [show (nar .boolean (1 : Int32)) = (1 : Int32) from by decide]
          show Wp none l Z "com/example/keyword_to_concept/keywordtoconcept/evaluation/RankedTopicAveragePrecisionPinLaw" "law" code maxLocals ret room_1 [(a190, oA .boolean [(1 : Int32), (0 : Int32), (0 : Int32)])] 1 3 76 #[.val (.int a), .val (.int b), .val (.int (3 : Int32)), .val (.int x2), .val (.int (1 : Int32)), .val (.int (1 : Int32)), .val (.int (1 : Int32)), .val (.ref a190), .unset, .unset, .unset, .unset, .unset, .unset, .unset, .unset] [] Q_law
          refine wp_iload_n D_76 rfl ?_
          refine wp_iconst 1 D_77 (by decide) ?_
          refine wp_icmp_le D_78 (pc'' := 87) ⟨by decide, by decide⟩ (fun h192 => by exact absurd h192 (by decide)) (fun h192 => ?_)
          refine wp_aload D_81 rfl rfl ?_
          refine wp_iconst 1 D_83 (by decide) ?_
          refine wp_iload D_84 rfl ?_
          refine wp_zastore (i := 0) (1) D_86 rfl (by decide) (by decide) (by first | decide | exact Nat.le_of_ble_eq_true rfl | simp) ?_
          rw [show (nar .boolean (1 : Int32)) = (1 : Int32) from by decide]
          show Wp none l Z "com/example/keyword_to_concept/keywordtoconcept/evaluation/RankedTopicAveragePrecisionPinLaw" "law" code maxLocals ret room_1 [(a190, oA .boolean [(1 : Int32), (1 : Int32), (0 : Int32)])] 1 3 87 #[.val (.int a), .val (.int b), .val (.int (3 : Int32)), .val (.int x2), .val (.int (1 : Int32)), .val (.int (1 : Int32)), .val (.int (1 : Int32)), .val (.ref a190), .unset, .unset, .unset, .unset, .unset, .unset, .unset, .unset] [] Q_law
          refine wp_iload_n D_87 rfl ?_
          refine wp_iconst 2 D_88 (by decide) ?_
          refine wp_icmp_le D_89 (pc'' := 98) ⟨by decide, by decide⟩ (fun h193 => by exact absurd h193 (by decide)) (fun h193 => ?_)
          refine wp_aload D_92 rfl rfl ?_
          refine wp_iconst 2 D_94 (by decide) ?_
          refine wp_iload D_95 rfl ?_
          refine wp_zastore (i := 0) (2) D_97 rfl (by decide) (by decide) (by first | decide | exact Nat.le_of_ble_eq_true rfl | simp) ?_
          rw [show (nar .boolean (1 : Int32)) = (1 : Int32) from by decide]
          show Wp none l Z "com/example/keyword_to_concept/keywordtoconcept/evaluation/RankedTopicAveragePrecisionPinLaw" "law" code maxLocals ret room_1 [(a190, oA .boolean [(1 : Int32), (1 : Int32), (1 : Int32)])] 1 3 98 #[.val (.int a), .val (.int b), .val (.int (3 : Int32)), .val (.int x2), .val (.int (1 : Int32)), .val (.int (1 : Int32)), .val (.int (1 : Int32)), .val (.ref a190), .unset, .unset, .unset, .unset, .unset, .unset, .unset, .unset] [] Q_law
          refine wp_iload_n D_98 rfl ?_
          refine wp_ldcI D_99 (hw _ (List.mem_of_getElem? (i := 1) rfl)) ?_
          refine wp_iand D_101 ?_
          generalize hg_x194 : (b &&& (2147483647 : Int32)) = x194
          refine wp_istore #[.val (.int a), .val (.int b), .val (.int (3 : Int32)), .val (.int x2), .val (.int (1 : Int32)), .val (.int (1 : Int32)), .val (.int (1 : Int32)), .val (.ref a190), .val (.int x194), .unset, .unset, .unset, .unset, .unset, .unset, .unset] D_102 rfl ?_
          refine wp_new sg_1 [(.null), (.int (0 : Int32))] D_104 (hw _ (List.mem_of_getElem? (i := 2) rfl)) (hw _ (List.mem_of_getElem? (i := 3) rfl)) (hw _ (List.mem_of_getElem? (i := 4) rfl)) (laid_sg_1 l Z a0 hw) (by decide) dfl_sg_1 (by decide) (by decide) ?_
          intro a195
          show Wp none l Z "com/example/keyword_to_concept/keywordtoconcept/evaluation/RankedTopicAveragePrecisionPinLaw" "law" code maxLocals ret room_1 [(a195, oI "com/example/keyword_to_concept/keywordtoconcept/evaluation/RankedTopic" sg_1 [(.null), (.int (0 : Int32))]), (a190, oA .boolean [(1 : Int32), (1 : Int32), (1 : Int32)])] 2 5 107 #[.val (.int a), .val (.int b), .val (.int (3 : Int32)), .val (.int x2), .val (.int (1 : Int32)), .val (.int (1 : Int32)), .val (.int (1 : Int32)), .val (.ref a190), .val (.int x194), .unset, .unset, .unset, .unset, .unset, .unset, .unset] [(.ref a195)] Q_law
          refine wp_dup D_107 rfl ?_
          refine wp_aload D_108 rfl rfl ?_
          refine wp_iload D_110 rfl ?_
          refine wp_init (c_ini l Z a0 hw a195 a190 x194 [(a190, oA .boolean [(1 : Int32), (1 : Int32), (1 : Int32)])]) D_112 rfl (hw _ (List.mem_of_getElem? (i := 5) rfl)) (hw _ (List.mem_of_getElem? (i := 6) rfl)) (hw _ (List.mem_of_getElem? (i := 4) rfl)) (hw _ (List.mem_of_getElem? (i := 7) rfl)) (by decide) pd_1 rfl rfl rfl (Nat.le_of_ble_eq_true rfl) (Nat.le_of_ble_eq_true rfl) (Nat.le_of_ble_eq_true rfl) (Nat.le_of_ble_eq_true rfl) ?_
          rintro _ _ ⟨rfl, rfl⟩
          show Wp none l Z "com/example/keyword_to_concept/keywordtoconcept/evaluation/RankedTopicAveragePrecisionPinLaw" "law" code maxLocals ret room_1 [(a195, oI "com/example/keyword_to_concept/keywordtoconcept/evaluation/RankedTopic" sg_1 [(.ref a190), (.int x194)]), (a190, oA .boolean [(1 : Int32), (1 : Int32), (1 : Int32)])] 2 5 115 #[.val (.int a), .val (.int b), .val (.int (3 : Int32)), .val (.int x2), .val (.int (1 : Int32)), .val (.int (1 : Int32)), .val (.int (1 : Int32)), .val (.ref a190), .val (.int x194), .unset, .unset, .unset, .unset, .unset, .unset, .unset] [(.ref a195)] Q_law
          refine wp_astore #[.val (.int a), .val (.int b), .val (.int (3 : Int32)), .val (.int x2), .val (.int (1 : Int32)), .val (.int (1 : Int32)), .val (.int (1 : Int32)), .val (.ref a190), .val (.int x194), .val (.ref a195), .unset, .unset, .unset, .unset, .unset, .unset] D_115 rfl rfl ?_
          refine wp_aload D_117 rfl rfl ?_
          refine wp_virtual (c_ap_111 l Z a0 hw a195 a190 x194 []) (exa_new (i := 0) rfl) D_119 (hw _ (List.mem_of_getElem? (i := 15) rfl)) (hw _ (List.mem_of_getElem? (i := 16) rfl)) (hw _ (List.mem_of_getElem? (i := 18) rfl)) (hw _ (List.mem_of_getElem? (i := 18) rfl)) (hw _ (List.mem_of_getElem? (i := 17) rfl)) (hw _ (List.mem_of_getElem? (i := 4) rfl)) (hw _ (List.mem_of_getElem? (i := 19) rfl)) (by decide) pd_2 rfl rfl rfl (Nat.le_of_ble_eq_true rfl) (Nat.le_of_ble_eq_true rfl) (Nat.le_of_ble_eq_true rfl) (Nat.le_of_ble_eq_true rfl) ?_
          rintro _ _ ⟨rfl, rfl⟩
          by_cases hR196 : x194 = 0
          · rw [if_pos hR196]
            show Wp none l Z "com/example/keyword_to_concept/keywordtoconcept/evaluation/RankedTopicAveragePrecisionPinLaw" "law" code maxLocals ret room_1 [(a195, oI "com/example/keyword_to_concept/keywordtoconcept/evaluation/RankedTopic" sg_1 [(.ref a190), (.int x194)]), (a190, oA .boolean [(1 : Int32), (1 : Int32), (1 : Int32)])] 2 5 122 #[.val (.int a), .val (.int b), .val (.int (3 : Int32)), .val (.int x2), .val (.int (1 : Int32)), .val (.int (1 : Int32)), .val (.int (1 : Int32)), .val (.ref a190), .val (.int x194), .val (.ref a195), .unset, .unset, .unset, .unset, .unset, .unset] [(.double (0 : UInt64))] Q_law
            refine wp_dstore #[.val (.int a), .val (.int b), .val (.int (3 : Int32)), .val (.int x2), .val (.int (1 : Int32)), .val (.int (1 : Int32)), .val (.int (1 : Int32)), .val (.ref a190), .val (.int x194), .val (.ref a195), .val (.double (0 : UInt64)), .second, .unset, .unset, .unset, .unset] D_122 rfl ?_
            refine wp_iload D_124 rfl ?_
            refine wp_iload D_126 rfl ?_
            refine wp_iload D_128 rfl ?_
            refine wp_callS (c_ps_111 l Z a0 hw [(a195, oI "com/example/keyword_to_concept/keywordtoconcept/evaluation/RankedTopic" sg_1 [(.ref a190), (.int x194)]), (a190, oA .boolean [(1 : Int32), (1 : Int32), (1 : Int32)])]) D_130 (hw _ (List.mem_of_getElem? (i := 20) rfl)) (hw _ (List.mem_of_getElem? (i := 21) rfl)) (hw _ (List.mem_of_getElem? (i := 22) rfl)) (hw _ (List.mem_of_getElem? (i := 23) rfl)) (by decide) pd_3 rfl rfl rfl (Nat.le_of_ble_eq_true rfl) (Nat.le_of_ble_eq_true rfl) (Nat.le_of_ble_eq_true rfl) (Nat.le_of_ble_eq_true rfl) ?_
            rintro _ _ ⟨rfl, rfl⟩
            show Wp none l Z "com/example/keyword_to_concept/keywordtoconcept/evaluation/RankedTopicAveragePrecisionPinLaw" "law" code maxLocals ret room_1 [(a195, oI "com/example/keyword_to_concept/keywordtoconcept/evaluation/RankedTopic" sg_1 [(.ref a190), (.int x194)]), (a190, oA .boolean [(1 : Int32), (1 : Int32), (1 : Int32)])] 2 5 133 #[.val (.int a), .val (.int b), .val (.int (3 : Int32)), .val (.int x2), .val (.int (1 : Int32)), .val (.int (1 : Int32)), .val (.int (1 : Int32)), .val (.ref a190), .val (.int x194), .val (.ref a195), .val (.double (0 : UInt64)), .second, .unset, .unset, .unset, .unset] [(.double (4613937818241073152 : UInt64))] Q_law
            refine wp_dstore #[.val (.int a), .val (.int b), .val (.int (3 : Int32)), .val (.int x2), .val (.int (1 : Int32)), .val (.int (1 : Int32)), .val (.int (1 : Int32)), .val (.ref a190), .val (.int x194), .val (.ref a195), .val (.double (0 : UInt64)), .second, .val (.double (4613937818241073152 : UInt64)), .second, .unset, .unset] D_133 rfl ?_
            refine wp_iload D_135 rfl ?_
            refine wp_if_ne D_137 (pc'' := 144) ⟨by decide, by decide⟩ (fun h197 => by exact absurd hR196 h197) (fun h197 => ?_)
            refine wp_dconst0 0 D_140 (by decide +kernel) ?_
            refine wp_goto D_141 (pc'' := 150) ⟨by decide, by decide⟩ ?_
            refine wp_dstore #[.val (.int a), .val (.int b), .val (.int (3 : Int32)), .val (.int x2), .val (.int (1 : Int32)), .val (.int (1 : Int32)), .val (.int (1 : Int32)), .val (.ref a190), .val (.int x194), .val (.ref a195), .val (.double (0 : UInt64)), .second, .val (.double (4613937818241073152 : UInt64)), .second, .val (.double (0 : UInt64)), .second] D_150 rfl ?_
            refine wp_dload D_152 rfl ?_
            refine wp_dload D_154 rfl ?_
            refine wp_dcmp (0 : Int32) D_156 (by decide +kernel) ?_
            refine wp_if_ne D_157 (pc'' := 164) ⟨by decide, by decide⟩ (fun h198 => by exact absurd h198 (by decide)) (fun h198 => ?_)
            refine wp_iconst 1 D_160 (by decide) ?_
            refine wp_goto D_161 (pc'' := 165) ⟨by decide, by decide⟩ ?_
            refine wp_ireturnN D_165 rfl (by simp) (by decide) (by decide) ?_
            exact rfl
          · rw [if_neg hR196]
            show Wp none l Z "com/example/keyword_to_concept/keywordtoconcept/evaluation/RankedTopicAveragePrecisionPinLaw" "law" code maxLocals ret room_1 [(a195, oI "com/example/keyword_to_concept/keywordtoconcept/evaluation/RankedTopic" sg_1 [(.ref a190), (.int x194)]), (a190, oA .boolean [(1 : Int32), (1 : Int32), (1 : Int32)])] 2 5 122 #[.val (.int a), .val (.int b), .val (.int (3 : Int32)), .val (.int x2), .val (.int (1 : Int32)), .val (.int (1 : Int32)), .val (.int (1 : Int32)), .val (.ref a190), .val (.int x194), .val (.ref a195), .unset, .unset, .unset, .unset, .unset, .unset] [(.double (FP.ddiv (4613937818241073152 : UInt64) (FP.i2d x194)))] Q_law
            refine wp_dstore #[.val (.int a), .val (.int b), .val (.int (3 : Int32)), .val (.int x2), .val (.int (1 : Int32)), .val (.int (1 : Int32)), .val (.int (1 : Int32)), .val (.ref a190), .val (.int x194), .val (.ref a195), .val (.double (FP.ddiv (4613937818241073152 : UInt64) (FP.i2d x194))), .second, .unset, .unset, .unset, .unset] D_122 rfl ?_
            refine wp_iload D_124 rfl ?_
            refine wp_iload D_126 rfl ?_
            refine wp_iload D_128 rfl ?_
            refine wp_callS (c_ps_111 l Z a0 hw [(a195, oI "com/example/keyword_to_concept/keywordtoconcept/evaluation/RankedTopic" sg_1 [(.ref a190), (.int x194)]), (a190, oA .boolean [(1 : Int32), (1 : Int32), (1 : Int32)])]) D_130 (hw _ (List.mem_of_getElem? (i := 20) rfl)) (hw _ (List.mem_of_getElem? (i := 21) rfl)) (hw _ (List.mem_of_getElem? (i := 22) rfl)) (hw _ (List.mem_of_getElem? (i := 23) rfl)) (by decide) pd_3 rfl rfl rfl (Nat.le_of_ble_eq_true rfl) (Nat.le_of_ble_eq_true rfl) (Nat.le_of_ble_eq_true rfl) (Nat.le_of_ble_eq_true rfl) ?_
            rintro _ _ ⟨rfl, rfl⟩
            show Wp none l Z "com/example/keyword_to_concept/keywordtoconcept/evaluation/RankedTopicAveragePrecisionPinLaw" "law" code maxLocals ret room_1 [(a195, oI "com/example/keyword_to_concept/keywordtoconcept/evaluation/RankedTopic" sg_1 [(.ref a190), (.int x194)]), (a190, oA .boolean [(1 : Int32), (1 : Int32), (1 : Int32)])] 2 5 133 #[.val (.int a), .val (.int b), .val (.int (3 : Int32)), .val (.int x2), .val (.int (1 : Int32)), .val (.int (1 : Int32)), .val (.int (1 : Int32)), .val (.ref a190), .val (.int x194), .val (.ref a195), .val (.double (FP.ddiv (4613937818241073152 : UInt64) (FP.i2d x194))), .second, .unset, .unset, .unset, .unset] [(.double (4613937818241073152 : UInt64))] Q_law
            refine wp_dstore #[.val (.int a), .val (.int b), .val (.int (3 : Int32)), .val (.int x2), .val (.int (1 : Int32)), .val (.int (1 : Int32)), .val (.int (1 : Int32)), .val (.ref a190), .val (.int x194), .val (.ref a195), .val (.double (FP.ddiv (4613937818241073152 : UInt64) (FP.i2d x194))), .second, .val (.double (4613937818241073152 : UInt64)), .second, .unset, .unset] D_133 rfl ?_
            refine wp_iload D_135 rfl ?_
            refine wp_if_ne D_137 (pc'' := 144) ⟨by decide, by decide⟩ (fun h199 => ?_) (fun h199 => by exact absurd h199 hR196)
            refine wp_dload D_144 rfl ?_
            refine wp_iload D_146 rfl ?_
            refine wp_i2d (FP.i2d x194) D_148 rfl ?_
            refine wp_ddiv (FP.ddiv (4613937818241073152 : UInt64) (FP.i2d x194)) D_149 (Jvm.Free.Fl.ddiv_out (by unfold Jvm.Free.Fl.NoNaN64; decide +kernel) (Jvm.Free.Fl.i2d_fin _) (Jvm.Free.Fl.i2d_nz hR196)) rfl ?_
            refine wp_dstore #[.val (.int a), .val (.int b), .val (.int (3 : Int32)), .val (.int x2), .val (.int (1 : Int32)), .val (.int (1 : Int32)), .val (.int (1 : Int32)), .val (.ref a190), .val (.int x194), .val (.ref a195), .val (.double (FP.ddiv (4613937818241073152 : UInt64) (FP.i2d x194))), .second, .val (.double (4613937818241073152 : UInt64)), .second, .val (.double (FP.ddiv (4613937818241073152 : UInt64) (FP.i2d x194))), .second] D_150 rfl ?_
            refine wp_dload D_152 rfl ?_
            refine wp_dload D_154 rfl ?_
            refine wp_dcmp (0 : Int32) D_156 (dcmpV_self (Jvm.Free.Fl.ddiv_out (by unfold Jvm.Free.Fl.NoNaN64; decide +kernel) (Jvm.Free.Fl.i2d_fin _) (Jvm.Free.Fl.i2d_nz hR196)) _) ?_
            refine wp_if_ne D_157 (pc'' := 164) ⟨by decide, by decide⟩ (fun h200 => by exact absurd h200 (by decide)) (fun h200 => ?_)
            refine wp_iconst 1 D_160 (by decide) ?_
            refine wp_goto D_161 (pc'' := 165) ⟨by decide, by decide⟩ ?_
            refine wp_ireturnN D_165 rfl (by simp) (by decide) (by decide) ?_
            exact rfl
set_option maxRecDepth 65536 in
set_option maxHeartbeats 40000000 in
theorem comes_1 {Post : Tables → Env → Array Value → State → Outcome → State → Prop} (hpost : ∀ tb e args s v u, (limb_1_1.after args s (.returned v) u = true ∧ limb_1_2.after args s (.returned v) u = true ∧ True) → FrameEnd s (.returned v) u (Jvm.fieldLocs frame_1_writes args s ++ Jvm.arrayLocs frame_1_arrays args s ++ Jvm.staticLocs frame_1_statics s) 16 128 → Post tb e args s (.returned v) u) :
    ArmFor flags0 classFile x code maxLocals ret World_1 tables_1 room_1 Calls_1 rest_1 Pre_1 Post := by
  intro l hfl _ _ p e ha hc hk s m args below hf hA hF happ hP
  obtain ⟨hcalls, hrest, hpre⟩ := hP
  obtain ⟨-, -, -, hnamed, -, -, -, hat⟩ := (Spec.applies_iff hf).mp happ
  obtain ⟨hg, hn⟩ := and_e (Cond.before_iff.mp (show (Jvm.Cond.and given_1 narrow_1).before args s = true from hpre))
  obtain ⟨hcnt, hk0⟩ := and_e hg
  obtain ⟨hz0, hk1⟩ := and_e hk0
  have hz1 := hk1
  obtain ⟨w0, w1, rfl⟩ : ∃ w0 w1 : Value, args = #[w0, w1] := by
    have hs : args.size = 2 := by simpa [Cond.value, given_1] using hcnt
    obtain ⟨L⟩ := args
    match L, hs with
    | [w0, w1], _ => exact ⟨w0, w1, rfl⟩
  have hw := fun d (hd : d ∈ tables_1) => atoms_spec (ws := Jvm.Cond.code x code maxLocals ret :: tables_1) hat d (List.mem_cons_of_mem _ hd)
  have hfit : Fit s := fun {y c} hc i hi => by
    obtain ⟨ha, rfl⟩ := Array.getElem?_eq_some_iff.mp hc
    have q := List.all_eq_true.mp ((Array.all_eq_true_iff_forall_mem.mp hF) _ (Array.getElem_mem ha)) i (List.mem_range.mpr hi)
    simpa [Array.getElem?_eq_getElem hi] using q
  obtain ⟨a, e0⟩ := is_v hz0
  obtain rfl : w0 = (.int a) := Option.some.inj e0
  obtain ⟨b, e1⟩ := is_v hz1
  obtain rfl : w1 = (.int b) := Option.some.inj e1
  have hm := (law_wp l s _ hw a b )
  obtain ⟨n, o, h1, h2, h3, v, L, rfl, ⟨N, -, H', -, hQ⟩, hq⟩ := Met.of_wp (y := x) (as' := [(.int a), (.int b)]) pn_4 (fun m => by first | rfl | (simp [entryFrame, mkF, argsToLocals, Value.category, maxLocals]; done)) hm tables_1 s.heap (Hp.nil s) p e ha hc hk s m _ below hf ((Spec.applies_iff_loose hf).mp happ).1 ⟨rfl, State.Warmed39.refl s, rfl⟩ trivial
  obtain rfl : v = some (.int 1) := hQ
  refine ⟨n, _, h1, h2, h3, hpost _ _ _ _ _ _ ⟨Cond.after_iff.mpr rfl, Cond.after_iff.mpr (eq_i res_at (Term.int_eval (1)) rfl), trivial⟩ ⟨hq.1, hq.2.1, (hq.2.2.sift fun y hy => Or.inr (N y hy)).mono (by decide) (by decide)⟩⟩
theorem main_1_1 : Claimed_1_1 := comes_1 fun _ _ _ _ _ _ h hF => ⟨h.1, hF⟩
theorem main_1_2 : Claimed_1_2 := comes_1 fun _ _ _ _ _ _ h hF => ⟨h.2.1, hF⟩
end Jvm.Pilot.@@N@@
namespace Jvm.Pilot.@@N@@
open Jvm Jvm.ClassFile Sem Op Lib Jvm.Free Jvm.Stand Jvm.Pilot.@@N@@.Jvm.D
/-! MADE BY PROGRAM (witnessworld.py) out of the Statement's table words and the real class files: 11 classes; the members and pool entries that the words name. The judged class is class 1, her method 2. -/
namespace start1
open Jvm.ClassFile
def u (s : String) : CpInfo := .utf8 (stringToUtf16 s)
/-- a pool by its gaps: so many unusable entries, then the entry; so many at the end -/
def gap : Nat → List CpInfo → List CpInfo
  | 0, r => r
  | n + 1, r => .unusable :: gap n r
def poolList (es : List (Nat × CpInfo)) (last : Nat) : List CpInfo := es.foldr (fun e r => gap e.1 (e.2 :: r)) (gap last [])
def pool (es : List (Nat × CpInfo)) (last : Nat) : Array CpInfo := ⟨poolList es last⟩
def fileOf (pool : Array CpInfo) (this : Nat) (attrs : Array Attribute := #[]) (ms : Array MethodInfo := #[]) (fl : Nat := 33) (sup : Nat := 0) (ifs : Array Nat := #[]) (fds : Array FieldInfo := #[]) : ClassFile where
  minorVersion := 0
  majorVersion := 65
  constantPool := pool
  accessFlags := fl
  thisClass := this
  superClass := sup
  interfaces := ifs
  fields := fds
  methods := ms
  attributes := attrs
def plain (name : String) (sup : Option ClassId) : Class where
  name := name
  kind := .ordinary
  loader := none
  accessFlags := 33
  super := sup
  interfaces := #[]
  cf := none
  fields := #[]
  methods := #[]
  instanceTypes := #[]
  staticTypes := #[]
  resolved := #[]
  callSites := []
  init := .initialized
  statics := none
  mirror := none

def pool0 : Array CpInfo := pool [(5, u "<init>"), (0, u "()V"), (1, .class_ 10), (1, u "java/lang/Object")] 113

def k0c0 : Code := { maxStack := 0, maxLocals := 1, code := object_method_1_code, exceptionTable := #[], attributes := #[] }
def k0m0 : Method := { name := "<init>", desc := "()V", sig := { parameters := [], returnType := none }, accessFlags := 1, code := some k0c0 }
/-- java/lang/Object -/
def k0 : Class := { plain "java/lang/Object" none with
  accessFlags := 33
  interfaces := #[]
  cf := some (fileOf pool0 8 #[] #[{ accessFlags := 1, nameIndex := 5, descriptorIndex := 6, attributes := #[] }] 33 0 #[] #[])
  fields := #[]
  methods := #[k0m0]
  instanceTypes := #[]
  staticTypes := #[]
  resolved := Array.replicate 124 none
  statics := none }

def pool1 : Array CpInfo := pool [(2, .class_ 4), (1, u "java/lang/Object"), (0, u "<init>"), (0, u "()V"), (0, .double 4613937818241073152), (1, .double 4611686018427387904), (1, .double 4610184818551597738), (1, .double 4607933018737912490), (1, .double 4602678819172646912), (1, .double 4599676419421066581), (1, .integer 2147483647), (0, .class_ 21), (0, u "com/example/keyword_to_concept/keywordtoconcept/evaluation/RankedTopic"), (0, .methodref 20 23), (0, .nameAndType 5 24), (0, u "([ZI)V"), (0, .methodref 20 26), (0, .nameAndType 27 28), (0, u "averagePrecision"), (0, u "()D"), (0, .methodref 30 31), (0, .class_ 32), (0, .nameAndType 33 34), (0, u "com/example/keyword_to_concept/keywordtoconcept/evaluation/RankedTopicAveragePrecisionPinLaw"), (0, u "precisionSum"), (0, u "(ZZZ)D"), (3, u "law"), (0, u "(II)Z")] 4

def k1m0 : Method := { name := "<init>", desc := "()V", sig := { parameters := [], returnType := none }, accessFlags := 1, code := none }
def k1c1 : Code := { maxStack := 2, maxLocals := 3, code := method_2_code, exceptionTable := #[], attributes := #[] }
def k1m1 : Method := { name := "precisionSum", desc := "(ZZZ)D", sig := { parameters := [.boolean, .boolean, .boolean], returnType := some .double }, accessFlags := 10, code := some k1c1 }
def k1c2 : Code := { maxStack := 4, maxLocals := 16, code := code, exceptionTable := #[], attributes := #[] }
def k1m2 : Method := { name := "law", desc := "(II)Z", sig := { parameters := [.int, .int], returnType := some .boolean }, accessFlags := 9, code := some k1c2 }
/-- com/example/keyword_to_concept/keywordtoconcept/evaluation/RankedTopicAveragePrecisionPinLaw -/
def k1 : Class := { plain "com/example/keyword_to_concept/keywordtoconcept/evaluation/RankedTopicAveragePrecisionPinLaw" (some 0) with
  accessFlags := 49
  interfaces := #[]
  cf := some (fileOf pool1 30 #[] #[{ accessFlags := 1, nameIndex := 5, descriptorIndex := 6, attributes := #[] }, { accessFlags := 10, nameIndex := 33, descriptorIndex := 34, attributes := #[] }, { accessFlags := 9, nameIndex := 38, descriptorIndex := 39, attributes := #[] }] 49 2 #[] #[])
  fields := #[]
  methods := #[k1m0, k1m1, k1m2]
  instanceTypes := #[]
  staticTypes := #[]
  resolved := Array.replicate 44 none
  statics := none }

def pool2 : Array CpInfo := pool [(1, .methodref 2 3), (0, .class_ 4), (0, .nameAndType 5 6), (0, u "java/lang/Object"), (0, u "<init>"), (0, u "()V"), (0, .fieldref 8 9), (0, .class_ 10), (0, .nameAndType 11 12), (0, u "com/example/keyword_to_concept/keywordtoconcept/evaluation/RankedTopic"), (0, u "relevantAtRank"), (0, u "[Z"), (0, .fieldref 8 14), (0, .nameAndType 15 16), (0, u "relevant"), (0, u "I"), (10, u "([ZI)V"), (5, u "averagePrecision"), (0, u "()D")] 4

def k2c0 : Code := { maxStack := 2, maxLocals := 3, code := prog_7_method_1_code, exceptionTable := #[], attributes := #[] }
def k2m0 : Method := { name := "<init>", desc := "([ZI)V", sig := { parameters := [(.array .boolean), .int], returnType := none }, accessFlags := 0, code := some k2c0 }
def k2c1 : Code := { maxStack := 6, maxLocals := 5, code := prog_7_method_5_code, exceptionTable := #[], attributes := #[] }
def k2m1 : Method := { name := "averagePrecision", desc := "()D", sig := { parameters := [], returnType := some .double }, accessFlags := 0, code := some k2c1 }
/-- com/example/keyword_to_concept/keywordtoconcept/evaluation/RankedTopic -/
def k2 : Class := { plain "com/example/keyword_to_concept/keywordtoconcept/evaluation/RankedTopic" (some 0) with
  accessFlags := 32
  interfaces := #[]
  cf := some (fileOf pool2 8 #[] #[{ accessFlags := 0, nameIndex := 5, descriptorIndex := 27, attributes := #[] }, { accessFlags := 0, nameIndex := 33, descriptorIndex := 34, attributes := #[] }] 32 2 #[] #[{ accessFlags := 18, nameIndex := 11, descriptorIndex := 12, attributes := #[] }, { accessFlags := 18, nameIndex := 15, descriptorIndex := 16, attributes := #[] }])
  fields := #[{ name := "relevantAtRank", type := (.array .boolean), accessFlags := 18, slot := 0, constantValue := 0 }, { name := "relevant", type := .int, accessFlags := 18, slot := 1, constantValue := 0 }]
  methods := #[k2m0, k2m1]
  instanceTypes := #[(.array .boolean), .int]
  staticTypes := #[]
  resolved := Array.replicate 39 none
  statics := none }

def pool3 : Array CpInfo := pool [(1, u "java/lang/Cloneable"), (0, .class_ 1), (0, u "java/lang/Object"), (0, .class_ 3)] 3

/-- java/lang/Cloneable -/
def k3 : Class := { plain "java/lang/Cloneable" (some 0) with
  accessFlags := 1537
  interfaces := #[]
  cf := some (fileOf pool3 2 #[] #[] 1537 4 #[] #[])
  fields := #[]
  methods := #[]
  instanceTypes := #[]
  staticTypes := #[]
  resolved := Array.replicate 8 none
  statics := none }

def pool4 : Array CpInfo := pool [(1, u "java/io/Serializable"), (0, .class_ 1), (0, u "java/lang/Object"), (0, .class_ 3)] 3

/-- java/io/Serializable -/
def k4 : Class := { plain "java/io/Serializable" (some 0) with
  accessFlags := 1537
  interfaces := #[]
  cf := some (fileOf pool4 2 #[] #[] 1537 4 #[] #[])
  fields := #[]
  methods := #[]
  instanceTypes := #[]
  staticTypes := #[]
  resolved := Array.replicate 8 none
  statics := none }

/-- the primitive boolean -/
def k5 : Class := { plain "boolean" none with kind := .primitive 'Z', accessFlags := 0x411 }
/-- [Z -/
def k6 : Class := { plain "[Z" (some 0) with kind := .array 5 .boolean, interfaces := #[3, 4], accessFlags := 1041 }

/-- the primitive byte -/
def k7 : Class := { plain "byte" none with kind := .primitive 'B', accessFlags := 0x411 }
/-- [B -/
def k8 : Class := { plain "[B" (some 0) with kind := .array 7 .byte, interfaces := #[3, 4], accessFlags := 1041 }

/-- the primitive int -/
def k9 : Class := { plain "int" none with kind := .primitive 'I', accessFlags := 0x411 }
/-- [I -/
def k10 : Class := { plain "[I" (some 0) with kind := .array 9 .int, interfaces := #[3, 4], accessFlags := 1041 }

def heap : Heap := #[]
def classes : Array Class := #[k0, k1, k2, k3, k4, k5, k6, k7, k8, k9, k10]
def interned : List (Array UInt16 × Addr) := []
def slotsUsed : Nat := 0
def theMethod : MethodId := ⟨1, 2⟩
def args0 : Array Value := #[.int 7, .int 3]
def aboutOver (below : List Frame) : State where
  vm := { classes := classes, interned := interned.toArray }
  heap := heap
  slotsUsed := slotsUsed
  threads := #[{ frames := .invoking theMethod args0 :: below }]
def below0 : List Frame := [.native { method := ⟨0, 0⟩, args := #[] }]
def about1 : State := aboutOver below0
def p0 : Program := .bare "" "" ""
def e0 : Env := launch0.env 0 0 0
theorem w_frames : about1.frames = Frame.invoking theMethod args0 :: below0 := rfl
set_option maxRecDepth 65536 in
theorem w_args : argsFit about1.vm theMethod args0 = true := by decide +kernel
set_option maxRecDepth 65536 in
theorem w_heap : heapFits about1 = true := by decide +kernel
set_option maxRecDepth 65536 in
theorem w_runnable : about1.curStatus? = some .runnable := by decide +kernel
set_option maxRecDepth 65536 in
theorem w_alone : about1.alone = true := by decide +kernel
set_option maxRecDepth 65536 in
theorem w_named : about1.methodNamed? x = some theMethod := by decide +kernel
set_option maxRecDepth 65536 in
theorem w_hears : about1.hears theMethod below0 = true := by decide +kernel
set_option maxRecDepth 65536 in
theorem w_ripe : about1.ripe theMethod args0 below0 = true := by decide +kernel
theorem w_running : about1.status = .running := rfl
set_option maxRecDepth 65536 in
theorem w_room : about1.hasRoom e0.platform room_1 = true :=
  launch0.hasRoom_least _ room_1 (by decide +kernel) (by decide +kernel) (by decide +kernel) (by decide +kernel) (by decide +kernel) (by decide +kernel)
theorem allAtoms_all (ts : List Jvm.Cond) (a : Array Jvm.Value) (st : Jvm.State) : (allAtoms ts).before a st = ts.all (fun c => c.before a st) := by
  induction ts with
  | nil => rfl
  | cons c t ih =>
    show (Jvm.Cond.and c (allAtoms t)).before a st = _
    rw [Jvm.Cond.before_and, ih, List.all_cons]
def words1 : List Jvm.Cond := Jvm.Cond.code x code maxLocals ret :: tables_1
/-- a 'code' word, met by the world's own term for the bytes: nothing is compared byte by byte -/
theorem code_word {y : MethodName} {bytes : ByteArray} {mx : Nat} {rt : Option FieldType} {a : Array Value} {s : State} {m : MethodId} {meth : Method} {c : Code} (h1 : s.methodNamed? y = some m) (h2 : s.vm.method? m = some meth) (h3 : meth.code = some c) (h4 : c.code = bytes)
    (h5 : (c.maxLocals == mx && c.exceptionTable.isEmpty && decide (c.maxStack ≤ mostOperands) && decide (meth.sig.returnType = rt) && !meth.locks && decide (parseMethodDescriptor y.desc = some meth.sig)) = true) : (Jvm.Cond.code y bytes mx rt).before a s = true := by
  simp only [Bool.and_eq_true, beq_iff_eq, Bool.not_eq_true', decide_eq_true_eq] at h5
  obtain ⟨⟨⟨⟨⟨g1, g2⟩, g3⟩, g4⟩, g5⟩, g6⟩ := h5
  simp [Cond.before, Cond.holds, Cond.value, h1, h2, h3, h4, g1, g2, g3, g4, g5, g6]
def isCode : Jvm.Cond → Bool
  | .code _ _ _ _ => true
  | _ => false
theorem all_split {L : List Jvm.Cond} {P : Jvm.Cond → Bool} (h1 : L.all (fun c => isCode c || P c) = true) (h2 : ∀ c ∈ L.filter isCode, P c = true) : L.all P = true := by
  refine List.all_eq_true.mpr fun c hc => ?_
  have h := List.all_eq_true.mp h1 c hc
  rcases Bool.eq_false_or_eq_true (isCode c) with hi | hi
  · exact h2 c (List.mem_filter.mpr ⟨hc, hi⟩)
  · simpa [hi] using h
set_option maxRecDepth 65536 in
theorem w_c0 : (Jvm.Cond.code x code maxLocals ret).before args0 about1 = true := code_word (m := ⟨1, 2⟩) (meth := k1m2) (c := k1c2) (by decide +kernel) rfl rfl rfl (by decide +kernel)
set_option maxRecDepth 65536 in
theorem w_c1 : (Jvm.Cond.code ({ cls := "com/example/keyword_to_concept/keywordtoconcept/evaluation/RankedTopic", name := "<init>", desc := "([ZI)V" } : Jvm.MethodName) prog_7_method_1_code (3 : Nat) (Option.none : Option Jvm.ClassFile.FieldType)).before args0 about1 = true := code_word (m := ⟨2, 0⟩) (meth := k2m0) (c := k2c0) (by decide +kernel) rfl rfl rfl (by decide +kernel)
set_option maxRecDepth 65536 in
theorem w_c2 : (Jvm.Cond.code ({ cls := "java/lang/Object", name := "<init>", desc := "()V" } : Jvm.MethodName) object_method_1_code (1 : Nat) (Option.none : Option Jvm.ClassFile.FieldType)).before args0 about1 = true := code_word (m := ⟨0, 0⟩) (meth := k0m0) (c := k0c0) (by decide +kernel) rfl rfl rfl (by decide +kernel)
set_option maxRecDepth 65536 in
theorem w_c3 : (Jvm.Cond.code ({ cls := "com/example/keyword_to_concept/keywordtoconcept/evaluation/RankedTopic", name := "averagePrecision", desc := "()D" } : Jvm.MethodName) prog_7_method_5_code (5 : Nat) (Option.some Jvm.ClassFile.FieldType.double)).before args0 about1 = true := code_word (m := ⟨2, 1⟩) (meth := k2m1) (c := k2c1) (by decide +kernel) rfl rfl rfl (by decide +kernel)
set_option maxRecDepth 65536 in
theorem w_c4 : (Jvm.Cond.code ({ cls := "com/example/keyword_to_concept/keywordtoconcept/evaluation/RankedTopicAveragePrecisionPinLaw", name := "precisionSum", desc := "(ZZZ)D" } : Jvm.MethodName) method_2_code (3 : Nat) (Option.some Jvm.ClassFile.FieldType.double)).before args0 about1 = true := code_word (m := ⟨1, 1⟩) (meth := k1m1) (c := k1c1) (by decide +kernel) rfl rfl rfl (by decide +kernel)
def codes1 : List Jvm.Cond := [Jvm.Cond.code x code maxLocals ret, Jvm.Cond.code ({ cls := "com/example/keyword_to_concept/keywordtoconcept/evaluation/RankedTopic", name := "<init>", desc := "([ZI)V" } : Jvm.MethodName) prog_7_method_1_code (3 : Nat) (Option.none : Option Jvm.ClassFile.FieldType), Jvm.Cond.code ({ cls := "java/lang/Object", name := "<init>", desc := "()V" } : Jvm.MethodName) object_method_1_code (1 : Nat) (Option.none : Option Jvm.ClassFile.FieldType), Jvm.Cond.code ({ cls := "com/example/keyword_to_concept/keywordtoconcept/evaluation/RankedTopic", name := "averagePrecision", desc := "()D" } : Jvm.MethodName) prog_7_method_5_code (5 : Nat) (Option.some Jvm.ClassFile.FieldType.double), Jvm.Cond.code ({ cls := "com/example/keyword_to_concept/keywordtoconcept/evaluation/RankedTopicAveragePrecisionPinLaw", name := "precisionSum", desc := "(ZZZ)D" } : Jvm.MethodName) method_2_code (3 : Nat) (Option.some Jvm.ClassFile.FieldType.double)]
set_option maxRecDepth 65536 in
theorem codes_eq : words1.filter isCode = codes1 := rfl
theorem w_codes : ∀ c ∈ words1.filter isCode, c.before args0 about1 = true := by
  rw [codes_eq]
  intro c hc
  simp only [codes1, List.mem_cons, List.not_mem_nil, or_false] at hc
  rcases hc with rfl | rfl | rfl | rfl | rfl
  · exact w_c0
  · exact w_c1
  · exact w_c2
  · exact w_c3
  · exact w_c4
set_option maxRecDepth 65536 in
theorem w_t1 : (words1.take 24).all (fun c => isCode c || c.before args0 about1) = true := by decide +kernel
set_option maxRecDepth 65536 in
theorem w_t2 : (words1.drop 24).all (fun c => isCode c || c.before args0 about1) = true := by decide +kernel
theorem w_tables : (allAtoms (Jvm.Cond.code x code maxLocals ret :: tables_1)).before args0 about1 = true := by
  rw [allAtoms_all]
  show words1.all (fun c => c.before args0 about1) = true
  refine all_split ?_ w_codes
  rw [← List.take_append_drop 24 words1, List.all_append, w_t1, w_t2]
  rfl
set_option maxRecDepth 65536 in
theorem w_case : (Jvm.Cond.and given_1 narrow_1).before args0 about1 = true := by decide +kernel
theorem w_applies : (headSpec (Jvm.Cond.code x code maxLocals ret :: tables_1) room_1).applies x e0.platform about1 = true :=
  (Spec.applies_iff w_frames).mpr ⟨w_running, w_runnable, w_alone, w_named, w_hears, w_ripe, w_room, w_tables⟩
theorem atStart : AtStart classFile x code maxLocals ret World_1 tables_1 room_1 Calls_1 rest_1 Pre_1 launch0 p0 e0 about1 theMethod args0 below0 :=
  ⟨lists_1, trivial, launch0.admits_env _ _ _, launch0.least_env, fairChoices_fair.cas, fairChoices_fair.clock, w_frames, w_args, w_heap, w_applies, trivial, trivial, w_case⟩
end start1
theorem witness_1 : WitnessClaimed_1 := ⟨start1.p0, start1.e0, start1.about1, start1.theMethod, start1.args0, start1.below0, start1.atStart⟩
end Jvm.Pilot.@@N@@
