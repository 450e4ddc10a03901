import JvmDerived
import JvmDerived.Pilot.@@N@@Statement
import JvmDerived.Pilot.@@N@@Code
set_option linter.unusedVariables false
set_option linter.unusedSimpArgs false
namespace Jvm.Pilot.@@N@@
open Jvm Jvm.ClassFile Sem Op Lib Jvm.Free Jvm.Stand Jvm.LawKit Jvm.RoadKit Bundle Jvm.Pilot.@@N@@.Jvm.D
/-! THE OWN LAYER (printed by own/gen_layer.py): Wp: from this pc, with these locals, this operand stack and these new objects, the body comes to its return and Q holds of what it returns and of the new objects then -/
def locL : List Value → List Slot
  | [] => []
  | v :: vs => (if v.category = 2 then [.val v, .second] else [.val v]) ++ locL vs
theorem entry_fold (as' : List Value) : ∀ acc : Array Slot, as'.foldl (fun acc v => if v.category = 2 then (acc.push (.val v)).push .second else acc.push (.val v)) acc = acc ++ (locL as').toArray := by
  induction as' with
  | nil => intro acc; simp [locL]
  | cons v vs ih =>
    intro acc
    rw [List.foldl_cons, ih, locL]
    by_cases h : v.category = 2
    · simp [h]
    · simp [h]
theorem entry_loc (m : MethodId) (as' : List Value) (maxL : Nat) : entryFrame m as'.toArray maxL = mkF m 0 (locL as' ++ List.replicate (maxL - (locL as').length) Slot.unset).toArray [] := by
  have e : (as'.toArray.foldl (fun (acc : Array Slot) v => if v.category = 2 then (acc.push (.val v)).push .second else acc.push (.val v)) #[]) = (locL as').toArray := by
    rw [← Array.foldl_toList]
    show as'.foldl _ _ = _
    rw [entry_fold]; simp
  show mkF m 0 (argsToLocals as'.toArray maxL) [] = _
  unfold argsToLocals
  simp only [e]
  congr 1
  simp
abbrev OSig := List (String × String × String)
abbrev ObjB := (String × OSig × List Value) ⊕ ((FieldType × List Int32) ⊕ (List Int64 ⊕ (String × FieldType × List Value)))
/-- an object of the walk: true: made by it (it may be written); false: only read -/
abbrev Obj := Bool × ObjB
abbrev oI (C : String) (sg : OSig) (vs : List Value) : Obj := (true, .inl (C, sg, vs))
abbrev oA (ty : FieldType) (xs : List Int32) : Obj := (true, .inr (.inl (ty, xs)))
abbrev oJ (xs : List Int64) : Obj := (true, .inr (.inr (.inl xs)))
abbrev oR (C : String) (ty : FieldType) (vs : List Value) : Obj := (true, .inr (.inr (.inr (C, ty, vs))))
abbrev fI (C : String) (sg : OSig) (vs : List Value) : Obj := (false, .inl (C, sg, vs))
abbrev fA (ty : FieldType) (xs : List Int32) : Obj := (false, .inr (.inl (ty, xs)))
abbrev OH := List (Addr × Obj)
def Slo (Z : State) (sg : OSig) : Prop := sg.Pairwise fun f g => Jvm.RoadKit.slotOf Z f.1 f.2.1 f.2.2 ≠ Jvm.RoadKit.slotOf Z g.1 g.2.1 g.2.2
def OvrT (Z : State) (cA : ClassId) (C : String) (ty : FieldType) : Prop := ∃ (k : Class) (comp : ClassId), Z.vm.classes[cA]? = some k ∧ k.kind = .array comp ty ∧ Z.vm.findClass C = some comp
def Sat (Z : State) (h : Heap) (a : Addr) : ObjB → Prop
  | .inl (C, sg, vs) => Exa Z h a C ∧ Slo Z sg ∧ ∀ (i : Nat) (f : String × String × String) (v : Value), sg[i]? = some f → vs[i]? = some v → Fld Z h a f.1 f.2.1 f.2.2 v
  | .inr (.inl (ty, xs)) => (ty = .byte ∨ Exa Z h a ("[" ++ ty.toString)) ∧ ∃ c : Cell, Arr Z h a c ty ∧ c.slots = (xs.map Value.int).toArray ∧ ∀ x ∈ xs, fits ty (.int x) = true
  | .inr (.inr (.inl xs)) => Exa Z h a "[J" ∧ ∃ c : Cell, Arr Z h a c .long ∧ c.slots = (xs.map Value.long).toArray
  | .inr (.inr (.inr (C, ty, vs))) => Exa Z h a ("[" ++ ty.toString) ∧ ∃ c : Cell, Arr Z h a c ty ∧ OvrT Z c.cls C ty ∧ c.slots = vs.toArray ∧ ∀ v ∈ vs, v.isRef = true
def Hp (Z : State) (h : Heap) (H : OH) : Prop := Ext Z.heap h ∧ (∀ x ∈ H, (x.2.1 = true → Z.heap.size ≤ x.1) ∧ Sat Z h x.1 x.2.2) ∧ H.Pairwise fun x y => (x.2.1 = true ∨ y.2.1 = true) → x.1 ≠ y.1
theorem Sat.ext {Z : State} {h h' : Heap} {a : Addr} (E : Ext h h') : ∀ {o : ObjB}, Sat Z h a o → Sat Z h' a o
  | .inl (C, sg, vs), ⟨h1, h2, h3⟩ => ⟨h1.ext E, h2, fun i f v q r => (h3 i f v q r).ext E⟩
  | .inr (.inl (ty, xs)), ⟨q, c, h1, h2⟩ => ⟨q.imp id (·.ext E), c, h1.ext E, h2⟩
  | .inr (.inr (.inl xs)), ⟨q, c, h1, h2⟩ => ⟨q.ext E, c, h1.ext E, h2⟩
  | .inr (.inr (.inr (C, ty, vs))), ⟨q, c, h1, h2⟩ => ⟨q.ext E, c, h1.ext E, h2⟩
theorem Sat.other {Z : State} {h h' : Heap} {a b : Addr} {sl : Nat} {v : Value} (W : Wr h h' a sl v) (ne : b ≠ a) : ∀ {o : ObjB}, Sat Z h b o → Sat Z h' b o
  | .inl (C, sg, vs), ⟨h1, h2, h3⟩ => ⟨h1.wr W, h2, fun i f v q r => (h3 i f v q r).other W (Or.inl ne)⟩
  | .inr (.inl (ty, xs)), ⟨q, c, h1, h2⟩ => ⟨q.imp id (·.wr W), c, h1.other W ne, h2⟩
  | .inr (.inr (.inl xs)), ⟨q, c, h1, h2⟩ => ⟨q.wr W, c, h1.other W ne, h2⟩
  | .inr (.inr (.inr (C, ty, vs))), ⟨q, c, h1, h2⟩ => ⟨q.wr W, c, h1.other W ne, h2⟩
theorem Sat.lt {Z : State} {h : Heap} {a : Addr} : ∀ {o : ObjB}, Sat Z h a o → a < h.size
  | .inl (C, sg, vs), ⟨h1, h2, h3⟩ => h1.lt
  | .inr (.inl (ty, xs)), ⟨_, c, h1, _⟩ => h1.lt
  | .inr (.inr (.inl xs)), ⟨q, _⟩ => q.lt
  | .inr (.inr (.inr (C, ty, vs))), ⟨q, _⟩ => q.lt
theorem Hp.nil (Z : State) : Hp Z Z.heap [] := ⟨⟨Nat.le_refl _, fun _ _ q => q⟩, (fun _ q => nomatch q), List.Pairwise.nil⟩
theorem ext_trans {h h1 h2 : Heap} (E : Ext h h1) (E' : Ext h1 h2) : Ext h h2 := ⟨Nat.le_trans E.1 E'.1, fun a c q => E'.2 a c (E.2 a c q)⟩
theorem Hp.ext {Z : State} {h h' : Heap} {H : OH} (P : Hp Z h H) (E : Ext h h') : Hp Z h' H := ⟨ext_trans P.1 E, fun x q => ⟨(P.2.1 x q).1, (P.2.1 x q).2.ext E⟩, P.2.2⟩
theorem Hp.cons {Z : State} {h h' : Heap} {H : OH} (P : Hp Z h H) (E : Ext h h') {fl : Bool} {o : ObjB} (S : Sat Z h' h.size o) : Hp Z h' ((h.size, (fl, o)) :: H) :=
  ⟨ext_trans P.1 E, fun x q => (List.mem_cons.mp q).elim (fun e => by subst e; exact ⟨fun _ => P.1.1, S⟩) fun q => ⟨(P.2.1 x q).1, (P.2.1 x q).2.ext E⟩,
    List.Pairwise.cons (fun y q _ e => absurd ((P.2.1 y q).2.lt) (by rw [← e]; exact Nat.lt_irrefl _)) P.2.2⟩
theorem Hp.at {Z : State} {h : Heap} {H : OH} (P : Hp Z h H) {i : Nat} {x : Addr × Obj} (q : H[i]? = some x) : (x.2.1 = true → Z.heap.size ≤ x.1) ∧ Sat Z h x.1 x.2.2 := P.2.1 x (List.mem_of_getElem? q)
theorem Hp.ne {Z : State} {h : Heap} {H : OH} (P : Hp Z h H) {i j : Nat} {x y : Addr × Obj} (q : H[i]? = some x) (r : H[j]? = some y) (ht : x.2.1 = true ∨ y.2.1 = true) (ij : i ≠ j) : x.1 ≠ y.1 := by
  have hP := List.pairwise_iff_getElem.mp P.2.2
  obtain ⟨hi, rfl⟩ := List.getElem?_eq_some_iff.mp q
  obtain ⟨hj, rfl⟩ := List.getElem?_eq_some_iff.mp r
  rcases Nat.lt_or_gt_of_ne ij with u | u
  · exact hP i j hi hj u ht
  · exact fun e => hP j i hj hi u ht.symm e.symm
theorem Hp.set {Z : State} {h h' : Heap} {H : OH} (P : Hp Z h H) {i : Nat} {a : Addr} {o o' : ObjB} (q : H[i]? = some (a, (true, o))) {sl : Nat} {v : Value} (W : Wr h h' a sl v) (S : Sat Z h' a o') : Hp Z h' (H.set i (a, (true, o'))) := by
  have g : Z.heap.size ≤ a := (P.at q).1 rfl
  obtain ⟨hi, hq⟩ := List.getElem?_eq_some_iff.mp q
  refine ⟨⟨by rw [W.size]; exact P.1.1, fun b c r => ?_⟩, fun x hx => ?_, ?_⟩
  · obtain ⟨c', e1, -, -, -, e5, -⟩ := wr_at W (P.1.2 b c r)
    have : b < Z.heap.size := (Array.getElem?_eq_some_iff.mp r).1
    rw [← e5 (by rintro rfl; exact absurd this (Nat.not_lt.mpr g))]; exact e1
  · obtain ⟨n, hn⟩ := List.getElem?_of_mem hx
    rw [List.getElem?_set] at hn
    split at hn
    · have e0 : (a, (true, o')) = x := by simpa [hi] using hn
      subst e0; exact ⟨fun _ => g, S⟩
    · rename_i ne
      exact ⟨(P.at hn).1, (P.at hn).2.other W (P.ne hn q (Or.inr rfl) (Ne.symm ne))⟩
  · have e : (H.set i (a, (true, o'))).map (fun x => (x.1, x.2.1)) = H.map (fun x => (x.1, x.2.1)) := by
      rw [List.map_set]
      refine List.ext_getElem? fun n => ?_
      rw [List.getElem?_set]
      split
      · rename_i e; subst e
        simp [hi, hq]
      · rfl
    have h1 : (H.map (fun x => (x.1, x.2.1))).Pairwise (fun u v => (u.2 = true ∨ v.2 = true) → u.1 ≠ v.1) := List.pairwise_map.mpr P.2.2
    rw [← e] at h1
    exact List.pairwise_map.mp h1
theorem Hp.pick {Z : State} {h : Heap} {H : OH} (P : Hp Z h H) (is : List Nat) (hn : is.Nodup) : Hp Z h (is.filterMap fun i => H[i]?) := by
  refine ⟨P.1, fun x hx => ?_, ?_⟩
  · obtain ⟨i, -, q⟩ := List.mem_filterMap.mp hx
    exact P.at q
  · refine List.pairwise_filterMap.mpr (hn.imp fun {i j} ne x hx y hy ht => P.ne hx hy ht ne)
/-- what an instruction says: its constructor, its length, the next pc -/
def Dc (bytes : ByteArray) (pc : Nat) (i : Instr) (n pc' : Nat) : Prop := decode bytes pc = .ok (i, n) ∧ pc + n = pc'
def Tg (pc : Nat) (o : Int) (pc' : Nat) : Prop := 0 ≤ (pc : Int) + o ∧ ((pc : Int) + o).toNat = pc'
/-- the walk's mode: none: it loads no String constant; some none: it may; some (some Ts): it has loaded these texts and no others -/
abbrev Md := Option (Option (List String))
def MdOk (b : Md) (Z s : State) (vm0 : Vm) : Prop := ∀ Ts, b = some (some Ts) → s.heap = Z.heap ∧ Jvm.RoadKit.IB Z vm0 Ts
def Wp (b : Md) (l : Launch) (Z : State) (own nm : String) (bytes : ByteArray) (maxL : Nat) (ret : Option FieldType) (R : Room) (H : OH) (k j : Nat) (pc : Nat) (Ls : Array Slot) (st : List Value) (Q : Option Value → OH → Prop) : Prop :=
  ∀ (p : Program) (e : Env) (s : State) (vm0 : Vm) (k0 : Nat) (m : MethodId) (args : Array Value) (below : List Frame) (meth : Method) (c : Code) (T : State) (L : List Loc),
    p.tables.exec = Jvm.exec → Z.Warmed39 vm0 → s.Since vm0 k0 → k0 ≤ T.heap.size → c.code = bytes → c.maxLocals = maxL → vm0.findClass own = some m.cls → meth.name = nm → meth.sig.returnType = ret →
    Stand p l e R (s.setVm vm0) m args below meth c T L k j → Fr Z.heap.size L → Hp Z T.heap H → MdOk b Z s vm0 →
    ∃ (T' : State) (v : Option Value) (L' : List Loc) (k' j' : Nat) (vm1 : Vm) (k1 : Nat) (H' : OH),
      (s.Since vm1 k1 ∧ k1 ≤ T'.heap.size ∧ (b = none → vm1 = vm0)) ∧ Stand p l e R (s.setVm vm1) m args below meth c T' L' k' j' ∧ (k' ≤ R.cells ∧ j' ≤ R.slots ∧ T.heap.size ≤ T'.heap.size) ∧ Fr Z.heap.size L' ∧ Hp Z T'.heap H' ∧ (ret = none → v = none) ∧ Q v H' ∧
      ∀ fs, (∀ (f : JFrame) (acts : List Action), f.method = m → f.locked = none → f.entered = [] → (doReturn e (T'.setTop f) acts v).1 = T'.setFrames fs) → Steps p.tables e below (T.setTop (mkF m pc Ls st)) (T'.setFrames fs)
section Own
variable {b : Md} {l : Launch} {Z : State} {a0 : Array Value} {own nm : String} {bytes : ByteArray} {maxL : Nat} {ret : Option FieldType} {R : Room} {H : OH} {k j pc pc' : Nat} {Ls : Array Slot} {st : List Value} {Q : Option Value → OH → Prop}
theorem Wp.stepH
    (hs : ∀ (p : Program) (e : Env) (s : State) (m : MethodId) (args : Array Value) (below : List Frame) (meth : Method) (c : Code) (T : State) (L : List Loc),
      p.tables.exec = Jvm.exec → Z.Warmed39 s.vm → c.code = bytes → c.maxLocals = maxL → s.vm.findClass own = some m.cls → meth.name = nm → meth.sig.returnType = ret →
      Stand p l e R s m args below meth c T L k j → Fr Z.heap.size L → Hp Z T.heap H →
      ∃ (T' : State) (L' : List Loc) (k' j' : Nat) (H' : OH) (pc' : Nat) (Ls' : Array Slot) (st' : List Value), Stand p l e R s m args below meth c T' L' k' j' ∧ T.heap.size ≤ T'.heap.size ∧ Fr Z.heap.size L' ∧ Hp Z T'.heap H' ∧ Wp b l Z own nm bytes maxL ret R H' k' j' pc' Ls' st' Q ∧
        ∀ target, Steps p.tables e below (T'.setTop (mkF m pc' Ls' st')) target → Steps p.tables e below (T.setTop (mkF m pc Ls st)) target) :
    Wp b l Z own nm bytes maxL ret R H k j pc Ls st Q := by
  intro p e s vm0 k0 m args below meth c T L hx hZ hS hk hby hml hown hnm hret X N hH hB
  obtain ⟨T', L', k', j', H', pc', Ls', st', X', hsz, N', hH', hr, stp⟩ := hs p e (s.setVm vm0) m args below meth c T L hx hZ hby hml hown hnm hret X N hH
  obtain ⟨T2, v, L2, k2, j2, vm1, k1, H2, r1, r2, ⟨r3, r4, r5⟩, r6, r7, r8, r9, r10⟩ := hr p e s vm0 k0 m args below meth c T' L' hx hZ hS (Nat.le_trans hk hsz) hby hml hown hnm hret X' N' hH' hB
  exact ⟨T2, v, L2, k2, j2, vm1, k1, H2, r1, r2, ⟨r3, r4, Nat.le_trans hsz r5⟩, r6, r7, r8, r9, fun fs hl => stp _ (r10 fs hl)⟩
theorem Wp.step {Ls' : Array Slot} {st' : List Value}
    (hs : ∀ (p : Program) (e : Env) (s : State) (m : MethodId) (args : Array Value) (below : List Frame) (meth : Method) (c : Code) (T : State) (L : List Loc),
      p.tables.exec = Jvm.exec → Z.Warmed39 s.vm → c.code = bytes → s.vm.findClass own = some m.cls → Stand p l e R s m args below meth c T L k j → Hp Z T.heap H →
        ∀ target, Steps p.tables e below (T.setTop (mkF m pc' Ls' st')) target → Steps p.tables e below (T.setTop (mkF m pc Ls st)) target)
    (hr : Wp b l Z own nm bytes maxL ret R H k j pc' Ls' st' Q) : Wp b l Z own nm bytes maxL ret R H k j pc Ls st Q :=
  Wp.stepH fun p e s m args below meth c T L hx hZ hby hml hown hnm hret X N hH => ⟨T, L, k, j, H, pc', Ls', st', X, Nat.le_refl _, N, hH, hr, hs p e s m args below meth c T L hx hZ hby hown X hH⟩
theorem Wp.know {P : Prop} (hp : ∀ h, Hp Z h H → P) (hr : P → Wp b l Z own nm bytes maxL ret R H k j pc Ls st Q) : Wp b l Z own nm bytes maxL ret R H k j pc Ls st Q :=
  fun p e s vm0 k0 m args below meth c T L hx hZ hS hk hby hml hown hnm hret X N hH hB => hr (hp _ hH) p e s vm0 k0 m args below meth c T L hx hZ hS hk hby hml hown hnm hret X N hH hB
theorem Wp.pick (is : List Nat) (hn : is.Nodup) (hr : Wp b l Z own nm bytes maxL ret R (is.filterMap fun i => H[i]?) k j pc Ls st Q) : Wp b l Z own nm bytes maxL ret R H k j pc Ls st Q :=
  Wp.stepH fun p e s m args below meth c T L hx hZ hby hml hown hnm hret X N hH => ⟨T, L, k, j, _, pc, Ls, st, X, Nat.le_refl _, N, hH.pick is hn, hr, fun _ q => q⟩
theorem Wp.more {k' j' : Nat} (hk : k ≤ k') (hj : j ≤ j') (hr : Wp b l Z own nm bytes maxL ret R H k' j' pc Ls st Q) : Wp b l Z own nm bytes maxL ret R H k j pc Ls st Q :=
  Wp.stepH fun p e s m args below meth c T L hx hZ hby hml hown hnm hret X N hH => ⟨T, L, k', j', H, pc, Ls, st, X.more hk hj, Nat.le_refl _, N, hH, hr, fun _ q => q⟩
theorem Wp.mono {Q' : Option Value → OH → Prop} (hr : Wp b l Z own nm bytes maxL ret R H k j pc Ls st Q') (hq : ∀ v H', Q' v H' → Q v H') : Wp b l Z own nm bytes maxL ret R H k j pc Ls st Q :=
  fun p e s vm0 k0 m args below meth c T L hx hZ hS hk hby hml hown hnm hret X N hH hB => by
    obtain ⟨T2, v, L2, k2, j2, vm1, k1, H2, r1, r2, r3, r6, r7, r8, r9, r10⟩ := hr p e s vm0 k0 m args below meth c T L hx hZ hS hk hby hml hown hnm hret X N hH hB
    exact ⟨T2, v, L2, k2, j2, vm1, k1, H2, r1, r2, r3, r6, r7, r8, hq _ _ r9, r10⟩
theorem wp_iadd {x y : Int32} (hd : Dc bytes pc (.iadd) 1 pc')  (hr : Wp b l Z own nm bytes maxL ret R H k j pc' Ls (.int (x + y) :: st) Q) : Wp b l Z own nm bytes maxL ret R H k j pc Ls (.int y :: .int x :: st) Q := by
  obtain ⟨hd, rfl⟩ := hd
  exact Wp.step (fun p e s m args below meth c T L hx hZ hby hown X hH target ht => XS.iadd X.here hx rfl (hb hby hd) rfl ht) hr
theorem wp_isub {x y : Int32} (hd : Dc bytes pc (.isub) 1 pc')  (hr : Wp b l Z own nm bytes maxL ret R H k j pc' Ls (.int (x - y) :: st) Q) : Wp b l Z own nm bytes maxL ret R H k j pc Ls (.int y :: .int x :: st) Q := by
  obtain ⟨hd, rfl⟩ := hd
  exact Wp.step (fun p e s m args below meth c T L hx hZ hby hown X hH target ht => XS.isub X.here hx rfl (hb hby hd) rfl ht) hr
theorem wp_iand {x y : Int32} (hd : Dc bytes pc (.iand) 1 pc')  (hr : Wp b l Z own nm bytes maxL ret R H k j pc' Ls (.int (x &&& y) :: st) Q) : Wp b l Z own nm bytes maxL ret R H k j pc Ls (.int y :: .int x :: st) Q := by
  obtain ⟨hd, rfl⟩ := hd
  exact Wp.step (fun p e s m args below meth c T L hx hZ hby hown X hH target ht => XS.iand X.here hx rfl (hb hby hd) rfl ht) hr
theorem wp_imul {x y : Int32} (hd : Dc bytes pc (.imul) 1 pc')  (hr : Wp b l Z own nm bytes maxL ret R H k j pc' Ls (.int (x * y) :: st) Q) : Wp b l Z own nm bytes maxL ret R H k j pc Ls (.int y :: .int x :: st) Q := by
  obtain ⟨hd, rfl⟩ := hd
  exact Wp.step (fun p e s m args below meth c T L hx hZ hby hown X hH target ht => XS.imul X.here hx rfl (hb hby hd) rfl ht) hr
theorem wp_ixor {x y : Int32} (hd : Dc bytes pc (.ixor) 1 pc')  (hr : Wp b l Z own nm bytes maxL ret R H k j pc' Ls (.int (x ^^^ y) :: st) Q) : Wp b l Z own nm bytes maxL ret R H k j pc Ls (.int y :: .int x :: st) Q := by
  obtain ⟨hd, rfl⟩ := hd
  exact Wp.step (fun p e s m args below meth c T L hx hZ hby hown X hH target ht => XT.ixor X.here hx rfl (hb hby hd) rfl ht) hr
theorem wp_ior {x y : Int32} (hd : Dc bytes pc (.ior) 1 pc')  (hr : Wp b l Z own nm bytes maxL ret R H k j pc' Ls (.int (x ||| y) :: st) Q) : Wp b l Z own nm bytes maxL ret R H k j pc Ls (.int y :: .int x :: st) Q := by
  obtain ⟨hd, rfl⟩ := hd
  exact Wp.step (fun p e s m args below meth c T L hx hZ hby hown X hH target ht => XT.ior X.here hx rfl (hb hby hd) rfl ht) hr
theorem wp_ishl {x y : Int32} (hd : Dc bytes pc (.ishl) 1 pc')  (hr : Wp b l Z own nm bytes maxL ret R H k j pc' Ls (.int (x <<< (y &&& 31)) :: st) Q) : Wp b l Z own nm bytes maxL ret R H k j pc Ls (.int y :: .int x :: st) Q := by
  obtain ⟨hd, rfl⟩ := hd
  exact Wp.step (fun p e s m args below meth c T L hx hZ hby hown X hH target ht => XT.ishl X.here hx rfl (hb hby hd) rfl ht) hr
theorem wp_ishr {x y : Int32} (hd : Dc bytes pc (.ishr) 1 pc')  (hr : Wp b l Z own nm bytes maxL ret R H k j pc' Ls (.int (x >>> (y &&& 31)) :: st) Q) : Wp b l Z own nm bytes maxL ret R H k j pc Ls (.int y :: .int x :: st) Q := by
  obtain ⟨hd, rfl⟩ := hd
  exact Wp.step (fun p e s m args below meth c T L hx hZ hby hown X hH target ht => XT.ishr X.here hx rfl (hb hby hd) rfl ht) hr
theorem wp_iushr {x y : Int32} (hd : Dc bytes pc (.iushr) 1 pc')  (hr : Wp b l Z own nm bytes maxL ret R H k j pc' Ls (.int (XT.ushr x y) :: st) Q) : Wp b l Z own nm bytes maxL ret R H k j pc Ls (.int y :: .int x :: st) Q := by
  obtain ⟨hd, rfl⟩ := hd
  exact Wp.step (fun p e s m args below meth c T L hx hZ hby hown X hH target ht => XT.iushr X.here hx rfl (hb hby hd) rfl ht) hr
theorem wp_idiv {x y : Int32} (hd : Dc bytes pc (.idiv) 1 pc') (hy : y ≠ 0) (hr : Wp b l Z own nm bytes maxL ret R H k j pc' Ls (.int (x / y) :: st) Q) : Wp b l Z own nm bytes maxL ret R H k j pc Ls (.int y :: .int x :: st) Q := by
  obtain ⟨hd, rfl⟩ := hd
  exact Wp.step (fun p e s m args below meth c T L hx hZ hby hown X hH target ht => XS.idiv X.here hx rfl (hb hby hd) rfl hy ht) hr
theorem wp_irem {x y : Int32} (hd : Dc bytes pc (.irem) 1 pc') (hy : y ≠ 0) (hr : Wp b l Z own nm bytes maxL ret R H k j pc' Ls (.int (x % y) :: st) Q) : Wp b l Z own nm bytes maxL ret R H k j pc Ls (.int y :: .int x :: st) Q := by
  obtain ⟨hd, rfl⟩ := hd
  exact Wp.step (fun p e s m args below meth c T L hx hZ hby hown X hH target ht => iremM X hx rfl (hb hby hd) rfl hy ht) hr
theorem wp_ineg {x : Int32} (hd : Dc bytes pc (.ineg) 1 pc')  (hr : Wp b l Z own nm bytes maxL ret R H k j pc' Ls (.int (-x) :: st) Q) : Wp b l Z own nm bytes maxL ret R H k j pc Ls (.int x :: st) Q := by
  obtain ⟨hd, rfl⟩ := hd
  exact Wp.step (fun p e s m args below meth c T L hx hZ hby hown X hH target ht => XS.ineg X.here hx rfl (hb hby hd) rfl ht) hr
theorem wp_ladd {x y : Int64} (hd : Dc bytes pc (.ladd) 1 pc')  (hr : Wp b l Z own nm bytes maxL ret R H k j pc' Ls (.long (x + y) :: st) Q) : Wp b l Z own nm bytes maxL ret R H k j pc Ls (.long y :: .long x :: st) Q := by
  obtain ⟨hd, rfl⟩ := hd
  exact Wp.step (fun p e s m args below meth c T L hx hZ hby hown X hH target ht => XT.ladd X.here hx rfl (hb hby hd) rfl ht) hr
theorem wp_lsub {x y : Int64} (hd : Dc bytes pc (.lsub) 1 pc')  (hr : Wp b l Z own nm bytes maxL ret R H k j pc' Ls (.long (x - y) :: st) Q) : Wp b l Z own nm bytes maxL ret R H k j pc Ls (.long y :: .long x :: st) Q := by
  obtain ⟨hd, rfl⟩ := hd
  exact Wp.step (fun p e s m args below meth c T L hx hZ hby hown X hH target ht => XT.lsub X.here hx rfl (hb hby hd) rfl ht) hr
theorem wp_lmul {x y : Int64} (hd : Dc bytes pc (.lmul) 1 pc')  (hr : Wp b l Z own nm bytes maxL ret R H k j pc' Ls (.long (x * y) :: st) Q) : Wp b l Z own nm bytes maxL ret R H k j pc Ls (.long y :: .long x :: st) Q := by
  obtain ⟨hd, rfl⟩ := hd
  exact Wp.step (fun p e s m args below meth c T L hx hZ hby hown X hH target ht => XT.lmul X.here hx rfl (hb hby hd) rfl ht) hr
theorem wp_land {x y : Int64} (hd : Dc bytes pc (.land) 1 pc')  (hr : Wp b l Z own nm bytes maxL ret R H k j pc' Ls (.long (x &&& y) :: st) Q) : Wp b l Z own nm bytes maxL ret R H k j pc Ls (.long y :: .long x :: st) Q := by
  obtain ⟨hd, rfl⟩ := hd
  exact Wp.step (fun p e s m args below meth c T L hx hZ hby hown X hH target ht => XT.land X.here hx rfl (hb hby hd) rfl ht) hr
theorem wp_lor {x y : Int64} (hd : Dc bytes pc (.lor) 1 pc')  (hr : Wp b l Z own nm bytes maxL ret R H k j pc' Ls (.long (x ||| y) :: st) Q) : Wp b l Z own nm bytes maxL ret R H k j pc Ls (.long y :: .long x :: st) Q := by
  obtain ⟨hd, rfl⟩ := hd
  exact Wp.step (fun p e s m args below meth c T L hx hZ hby hown X hH target ht => XT.lor X.here hx rfl (hb hby hd) rfl ht) hr
theorem wp_lxor {x y : Int64} (hd : Dc bytes pc (.lxor) 1 pc')  (hr : Wp b l Z own nm bytes maxL ret R H k j pc' Ls (.long (x ^^^ y) :: st) Q) : Wp b l Z own nm bytes maxL ret R H k j pc Ls (.long y :: .long x :: st) Q := by
  obtain ⟨hd, rfl⟩ := hd
  exact Wp.step (fun p e s m args below meth c T L hx hZ hby hown X hH target ht => XT.lxor X.here hx rfl (hb hby hd) rfl ht) hr
theorem wp_lshl {x : Int64} {y : Int32} (hd : Dc bytes pc (.lshl) 1 pc')  (hr : Wp b l Z own nm bytes maxL ret R H k j pc' Ls (.long (x <<< (y.toInt64 &&& 63)) :: st) Q) : Wp b l Z own nm bytes maxL ret R H k j pc Ls (.int y :: .long x :: st) Q := by
  obtain ⟨hd, rfl⟩ := hd
  exact Wp.step (fun p e s m args below meth c T L hx hZ hby hown X hH target ht => XT.lshl X.here hx rfl (hb hby hd) rfl ht) hr
theorem wp_lshr {x : Int64} {y : Int32} (hd : Dc bytes pc (.lshr) 1 pc')  (hr : Wp b l Z own nm bytes maxL ret R H k j pc' Ls (.long (x >>> (y.toInt64 &&& 63)) :: st) Q) : Wp b l Z own nm bytes maxL ret R H k j pc Ls (.int y :: .long x :: st) Q := by
  obtain ⟨hd, rfl⟩ := hd
  exact Wp.step (fun p e s m args below meth c T L hx hZ hby hown X hH target ht => XT.lshr X.here hx rfl (hb hby hd) rfl ht) hr
theorem wp_lushr {x : Int64} {y : Int32} (hd : Dc bytes pc (.lushr) 1 pc')  (hr : Wp b l Z own nm bytes maxL ret R H k j pc' Ls (.long (XT.ushrL x y) :: st) Q) : Wp b l Z own nm bytes maxL ret R H k j pc Ls (.int y :: .long x :: st) Q := by
  obtain ⟨hd, rfl⟩ := hd
  exact Wp.step (fun p e s m args below meth c T L hx hZ hby hown X hH target ht => XT.lushr X.here hx rfl (hb hby hd) rfl ht) hr
theorem wp_ldiv {x y : Int64} (hd : Dc bytes pc (.ldiv) 1 pc') (hy : y ≠ 0) (hr : Wp b l Z own nm bytes maxL ret R H k j pc' Ls (.long (x / y) :: st) Q) : Wp b l Z own nm bytes maxL ret R H k j pc Ls (.long y :: .long x :: st) Q := by
  obtain ⟨hd, rfl⟩ := hd
  exact Wp.step (fun p e s m args below meth c T L hx hZ hby hown X hH target ht => XT.ldiv X.here hx rfl (hb hby hd) rfl hy ht) hr
theorem wp_lrem {x y : Int64} (hd : Dc bytes pc (.lrem) 1 pc') (hy : y ≠ 0) (hr : Wp b l Z own nm bytes maxL ret R H k j pc' Ls (.long (x - (x / y) * y) :: st) Q) : Wp b l Z own nm bytes maxL ret R H k j pc Ls (.long y :: .long x :: st) Q := by
  obtain ⟨hd, rfl⟩ := hd
  exact Wp.step (fun p e s m args below meth c T L hx hZ hby hown X hH target ht => XT.lrem X.here hx rfl (hb hby hd) rfl hy ht) hr
theorem wp_lneg {x : Int64} (hd : Dc bytes pc (.lneg) 1 pc')  (hr : Wp b l Z own nm bytes maxL ret R H k j pc' Ls (.long (-x) :: st) Q) : Wp b l Z own nm bytes maxL ret R H k j pc Ls (.long x :: st) Q := by
  obtain ⟨hd, rfl⟩ := hd
  exact Wp.step (fun p e s m args below meth c T L hx hZ hby hown X hH target ht => XT.lneg X.here hx rfl (hb hby hd) rfl ht) hr
theorem wp_i2l {x : Int32} (hd : Dc bytes pc (.i2l) 1 pc')  (hr : Wp b l Z own nm bytes maxL ret R H k j pc' Ls (.long x.toInt64 :: st) Q) : Wp b l Z own nm bytes maxL ret R H k j pc Ls (.int x :: st) Q := by
  obtain ⟨hd, rfl⟩ := hd
  exact Wp.step (fun p e s m args below meth c T L hx hZ hby hown X hH target ht => XT.i2l X.here hx rfl (hb hby hd) rfl ht) hr
theorem wp_l2i {x : Int64} (hd : Dc bytes pc (.l2i) 1 pc')  (hr : Wp b l Z own nm bytes maxL ret R H k j pc' Ls (.int x.toInt32 :: st) Q) : Wp b l Z own nm bytes maxL ret R H k j pc Ls (.long x :: st) Q := by
  obtain ⟨hd, rfl⟩ := hd
  exact Wp.step (fun p e s m args below meth c T L hx hZ hby hown X hH target ht => XT.l2i X.here hx rfl (hb hby hd) rfl ht) hr
theorem wp_i2b {x : Int32} (hd : Dc bytes pc (.i2b) 1 pc')  (hr : Wp b l Z own nm bytes maxL ret R H k j pc' Ls (.int x.toInt8.toInt32 :: st) Q) : Wp b l Z own nm bytes maxL ret R H k j pc Ls (.int x :: st) Q := by
  obtain ⟨hd, rfl⟩ := hd
  exact Wp.step (fun p e s m args below meth c T L hx hZ hby hown X hH target ht => XT.i2b X.here hx rfl (hb hby hd) rfl ht) hr
theorem wp_i2c {x : Int32} (hd : Dc bytes pc (.i2c) 1 pc')  (hr : Wp b l Z own nm bytes maxL ret R H k j pc' Ls (.int x.toUInt32.toUInt16.toUInt32.toInt32 :: st) Q) : Wp b l Z own nm bytes maxL ret R H k j pc Ls (.int x :: st) Q := by
  obtain ⟨hd, rfl⟩ := hd
  exact Wp.step (fun p e s m args below meth c T L hx hZ hby hown X hH target ht => XT.i2c X.here hx rfl (hb hby hd) rfl ht) hr
theorem wp_i2s {x : Int32} (hd : Dc bytes pc (.i2s) 1 pc')  (hr : Wp b l Z own nm bytes maxL ret R H k j pc' Ls (.int x.toInt16.toInt32 :: st) Q) : Wp b l Z own nm bytes maxL ret R H k j pc Ls (.int x :: st) Q := by
  obtain ⟨hd, rfl⟩ := hd
  exact Wp.step (fun p e s m args below meth c T L hx hZ hby hown X hH target ht => XT.i2s X.here hx rfl (hb hby hd) rfl ht) hr
theorem wp_lcmp {x y : Int64} (hd : Dc bytes pc (.lcmp) 1 pc')  (hr : Wp b l Z own nm bytes maxL ret R H k j pc' Ls (.int (XT.cmpL x y) :: st) Q) : Wp b l Z own nm bytes maxL ret R H k j pc Ls (.long y :: .long x :: st) Q := by
  obtain ⟨hd, rfl⟩ := hd
  exact Wp.step (fun p e s m args below meth c T L hx hZ hby hown X hH target ht => XT.lcmp X.here hx rfl (hb hby hd) rfl ht) hr
theorem wp_iload_n {n : Fin 4} {v : Int32} (hd : Dc bytes pc (.iload_n n) 1 pc') (hl : Ls[n.val]? = some (.val (.int v))) (hr : Wp b l Z own nm bytes maxL ret R H k j pc' Ls (.int v :: st) Q) : Wp b l Z own nm bytes maxL ret R H k j pc Ls st Q := by
  obtain ⟨hd, rfl⟩ := hd
  exact Wp.step (fun p e s m args below meth c T L hx hZ hby hown X hH target ht => XS.iloadN X.here hx rfl (hb hby hd) hl ht) hr
theorem wp_iload {n : Nat} {v : Int32} (hd : Dc bytes pc (.iload n) 2 pc') (hl : Ls[n]? = some (.val (.int v))) (hr : Wp b l Z own nm bytes maxL ret R H k j pc' Ls (.int v :: st) Q) : Wp b l Z own nm bytes maxL ret R H k j pc Ls st Q := by
  obtain ⟨hd, rfl⟩ := hd
  exact Wp.step (fun p e s m args below meth c T L hx hZ hby hown X hH target ht => XS.iload X.here hx rfl (hb hby hd) hl ht) hr
theorem wp_lload_n {n : Fin 4} {v : Int64} (hd : Dc bytes pc (.lload_n n) 1 pc') (hl : Ls[n.val]? = some (.val (.long v))) (hr : Wp b l Z own nm bytes maxL ret R H k j pc' Ls (.long v :: st) Q) : Wp b l Z own nm bytes maxL ret R H k j pc Ls st Q := by
  obtain ⟨hd, rfl⟩ := hd
  exact Wp.step (fun p e s m args below meth c T L hx hZ hby hown X hH target ht => XT.lloadN X.here hx rfl (hb hby hd) hl ht) hr
theorem wp_lload {n : Nat} {v : Int64} (hd : Dc bytes pc (.lload n) 2 pc') (hl : Ls[n]? = some (.val (.long v))) (hr : Wp b l Z own nm bytes maxL ret R H k j pc' Ls (.long v :: st) Q) : Wp b l Z own nm bytes maxL ret R H k j pc Ls st Q := by
  obtain ⟨hd, rfl⟩ := hd
  exact Wp.step (fun p e s m args below meth c T L hx hZ hby hown X hH target ht => XT.lload X.here hx rfl (hb hby hd) hl ht) hr
theorem wp_aload_n {n : Fin 4} {v : Value} (hd : Dc bytes pc (.aload_n n) 1 pc') (hl : Ls[n.val]? = some (.val v)) (hv : v.isRef = true) (hr : Wp b l Z own nm bytes maxL ret R H k j pc' Ls (v :: st) Q) : Wp b l Z own nm bytes maxL ret R H k j pc Ls st Q := by
  obtain ⟨hd, rfl⟩ := hd
  exact Wp.step (fun p e s m args below meth c T L hx hZ hby hown X hH target ht => XS.aloadN X.here hx rfl (hb hby hd) hl hv ht) hr
theorem wp_aload {n : Nat} {v : Value} (hd : Dc bytes pc (.aload n) 2 pc') (hl : Ls[n]? = some (.val v)) (hv : v.isRef = true) (hr : Wp b l Z own nm bytes maxL ret R H k j pc' Ls (v :: st) Q) : Wp b l Z own nm bytes maxL ret R H k j pc Ls st Q := by
  obtain ⟨hd, rfl⟩ := hd
  exact Wp.step (fun p e s m args below meth c T L hx hZ hby hown X hH target ht => XS.aload X.here hx rfl (hb hby hd) hl hv ht) hr
theorem wp_istore_n {n : Fin 4} {x : Int32} (Ls' : Array Slot) (hd : Dc bytes pc (.istore_n n) 1 pc') (hl : storeLocals Ls n.val (.int x) = some Ls') (hr : Wp b l Z own nm bytes maxL ret R H k j pc' Ls' st Q) : Wp b l Z own nm bytes maxL ret R H k j pc Ls (.int x :: st) Q := by
  obtain ⟨hd, rfl⟩ := hd
  exact Wp.step (fun p e s m args below meth c T L hx hZ hby hown X hH target ht => XS.istoreN X.here hx rfl (hb hby hd) rfl hl ht) hr
theorem wp_istore {n : Nat} {x : Int32} (Ls' : Array Slot) (hd : Dc bytes pc (.istore n) 2 pc') (hl : storeLocals Ls n (.int x) = some Ls') (hr : Wp b l Z own nm bytes maxL ret R H k j pc' Ls' st Q) : Wp b l Z own nm bytes maxL ret R H k j pc Ls (.int x :: st) Q := by
  obtain ⟨hd, rfl⟩ := hd
  exact Wp.step (fun p e s m args below meth c T L hx hZ hby hown X hH target ht => XS.istore X.here hx rfl (hb hby hd) rfl hl ht) hr
theorem wp_lstore_n {n : Fin 4} {x : Int64} (Ls' : Array Slot) (hd : Dc bytes pc (.lstore_n n) 1 pc') (hl : storeLocals Ls n.val (.long x) = some Ls') (hr : Wp b l Z own nm bytes maxL ret R H k j pc' Ls' st Q) : Wp b l Z own nm bytes maxL ret R H k j pc Ls (.long x :: st) Q := by
  obtain ⟨hd, rfl⟩ := hd
  exact Wp.step (fun p e s m args below meth c T L hx hZ hby hown X hH target ht => XT.lstoreN X.here hx rfl (hb hby hd) rfl hl ht) hr
theorem wp_lstore {n : Nat} {x : Int64} (Ls' : Array Slot) (hd : Dc bytes pc (.lstore n) 2 pc') (hl : storeLocals Ls n (.long x) = some Ls') (hr : Wp b l Z own nm bytes maxL ret R H k j pc' Ls' st Q) : Wp b l Z own nm bytes maxL ret R H k j pc Ls (.long x :: st) Q := by
  obtain ⟨hd, rfl⟩ := hd
  exact Wp.step (fun p e s m args below meth c T L hx hZ hby hown X hH target ht => XT.lstore X.here hx rfl (hb hby hd) rfl hl ht) hr
theorem wp_astore_n {n : Fin 4} {x : Value} (Ls' : Array Slot) (hd : Dc bytes pc (.astore_n n) 1 pc') (hv : x.isRef = true) (hl : storeLocals Ls n.val x = some Ls') (hr : Wp b l Z own nm bytes maxL ret R H k j pc' Ls' st Q) : Wp b l Z own nm bytes maxL ret R H k j pc Ls (x :: st) Q := by
  obtain ⟨hd, rfl⟩ := hd
  exact Wp.step (fun p e s m args below meth c T L hx hZ hby hown X hH target ht => XS.astoreN X.here hx rfl (hb hby hd) rfl hv hl ht) hr
theorem wp_astore {n : Nat} {x : Value} (Ls' : Array Slot) (hd : Dc bytes pc (.astore n) 2 pc') (hv : x.isRef = true) (hl : storeLocals Ls n x = some Ls') (hr : Wp b l Z own nm bytes maxL ret R H k j pc' Ls' st Q) : Wp b l Z own nm bytes maxL ret R H k j pc Ls (x :: st) Q := by
  obtain ⟨hd, rfl⟩ := hd
  exact Wp.step (fun p e s m args below meth c T L hx hZ hby hown X hH target ht => XS.astore X.here hx rfl (hb hby hd) rfl hv hl ht) hr
theorem wp_iinc {n : Nat} {c : Int} {x : Int32} (v : Int32) (Ls' : Array Slot) (hd : Dc bytes pc (.iinc n c) 3 pc') (hv : Int32.ofInt c = v) (hl : Ls[n]? = some (.val (.int x))) (hl' : storeLocals Ls n (.int (x + v)) = some Ls') (hr : Wp b l Z own nm bytes maxL ret R H k j pc' Ls' st Q) : Wp b l Z own nm bytes maxL ret R H k j pc Ls st Q := by
  obtain ⟨hd, rfl⟩ := hd
  exact Wp.step (fun p e s m args below meth c T L hx hZ hby hown X hH target ht => XT.iincV X.here hx rfl v (hb hby hd) hv hl hl' ht) hr
theorem wp_iconst {i : Int} (v : Int32) (hd : Dc bytes pc (.iconst i) 1 pc') (hv : Int32.ofInt i = v) (hr : Wp b l Z own nm bytes maxL ret R H k j pc' Ls (.int v :: st) Q) : Wp b l Z own nm bytes maxL ret R H k j pc Ls st Q := by
  obtain ⟨hd, rfl⟩ := hd
  exact Wp.step (fun p e s m args below meth c T L hx hZ hby hown X hH target ht => XT.iconstV X.here hx rfl v (hb hby hd) hv ht) hr
theorem wp_bipush {i : Int} (v : Int32) (hd : Dc bytes pc (.bipush i) 2 pc') (hv : (Int8.ofInt i).toInt32 = v) (hr : Wp b l Z own nm bytes maxL ret R H k j pc' Ls (.int v :: st) Q) : Wp b l Z own nm bytes maxL ret R H k j pc Ls st Q := by
  obtain ⟨hd, rfl⟩ := hd
  exact Wp.step (fun p e s m args below meth c T L hx hZ hby hown X hH target ht => XT.bipushV X.here hx rfl v (hb hby hd) hv ht) hr
theorem wp_sipush {i : Int} (v : Int32) (hd : Dc bytes pc (.sipush i) 3 pc') (hv : (Int16.ofInt i).toInt32 = v) (hr : Wp b l Z own nm bytes maxL ret R H k j pc' Ls (.int v :: st) Q) : Wp b l Z own nm bytes maxL ret R H k j pc Ls st Q := by
  obtain ⟨hd, rfl⟩ := hd
  exact Wp.step (fun p e s m args below meth c T L hx hZ hby hown X hH target ht => XT.sipushV X.here hx rfl v (hb hby hd) hv ht) hr
theorem wp_lconst {i : Fin 2} (v : Int64) (hd : Dc bytes pc (.lconst i) 1 pc') (hv : Int64.ofNat i = v) (hr : Wp b l Z own nm bytes maxL ret R H k j pc' Ls (.long v :: st) Q) : Wp b l Z own nm bytes maxL ret R H k j pc Ls st Q := by
  obtain ⟨hd, rfl⟩ := hd
  exact Wp.step (fun p e s m args below meth c T L hx hZ hby hown X hH target ht => XT.lconstV X.here hx rfl v (hb hby hd) hv ht) hr
theorem wp_aconst_null  (hd : Dc bytes pc (.aconst_null) 1 pc')  (hr : Wp b l Z own nm bytes maxL ret R H k j pc' Ls (.null :: st) Q) : Wp b l Z own nm bytes maxL ret R H k j pc Ls st Q := by
  obtain ⟨hd, rfl⟩ := hd
  exact Wp.step (fun p e s m args below meth c T L hx hZ hby hown X hH target ht => XS.aconstNull X.here hx rfl (hb hby hd)  ht) hr
theorem wp_dup {x : Value} (hd : Dc bytes pc (.dup) 1 pc') (hc : x.category = 1) (hr : Wp b l Z own nm bytes maxL ret R H k j pc' Ls (x :: x :: st) Q) : Wp b l Z own nm bytes maxL ret R H k j pc Ls (x :: st) Q := by
  obtain ⟨hd, rfl⟩ := hd
  exact Wp.step (fun p e s m args below meth c T L hx hZ hby hown X hH target ht => XS.dup X.here hx rfl (hb hby hd) rfl hc ht) hr
theorem wp_pop {x : Value} (hd : Dc bytes pc (.pop) 1 pc') (hc : x.category = 1) (hr : Wp b l Z own nm bytes maxL ret R H k j pc' Ls st Q) : Wp b l Z own nm bytes maxL ret R H k j pc Ls (x :: st) Q := by
  obtain ⟨hd, rfl⟩ := hd
  exact Wp.step (fun p e s m args below meth c T L hx hZ hby hown X hH target ht => XT.pop X.here hx rfl (hb hby hd) rfl hc ht) hr
theorem wp_dup_x1 {x y : Value} (hd : Dc bytes pc (.dup_x1) 1 pc') (hc : x.category = 1) (hc' : y.category = 1) (hr : Wp b l Z own nm bytes maxL ret R H k j pc' Ls (x :: y :: x :: st) Q) : Wp b l Z own nm bytes maxL ret R H k j pc Ls (x :: y :: st) Q := by
  obtain ⟨hd, rfl⟩ := hd
  exact Wp.step (fun p e s m args below meth c T L hx hZ hby hown X hH target ht => XT.dupX1 X.here hx rfl (hb hby hd) rfl hc hc' ht) hr
theorem wp_dup2 {x y : Value} (hd : Dc bytes pc (.dup2) 1 pc') (hc : x.category = 1) (hc' : y.category = 1) (hr : Wp b l Z own nm bytes maxL ret R H k j pc' Ls (x :: y :: x :: y :: st) Q) : Wp b l Z own nm bytes maxL ret R H k j pc Ls (x :: y :: st) Q := by
  obtain ⟨hd, rfl⟩ := hd
  exact Wp.step (fun p e s m args below meth c T L hx hZ hby hown X hH target ht => XT.dup2 X.here hx rfl (hb hby hd) rfl hc hc' ht) hr
theorem wp_dup2L {x : Int64} (hd : Dc bytes pc (.dup2) 1 pc')  (hr : Wp b l Z own nm bytes maxL ret R H k j pc' Ls (.long x :: .long x :: st) Q) : Wp b l Z own nm bytes maxL ret R H k j pc Ls (.long x :: st) Q := by
  obtain ⟨hd, rfl⟩ := hd
  exact Wp.step (fun p e s m args below meth c T L hx hZ hby hown X hH target ht => XT.dup2L X.here hx rfl (hb hby hd) rfl ht) hr
theorem wp_ldcI {i : Nat} {v : Int32} (hd : Dc bytes pc (.ldc i) 2 pc') (w : (Cond.constant own i v).before a0 Z = true) (hr : Wp b l Z own nm bytes maxL ret R H k j pc' Ls (.int v :: st) Q) : Wp b l Z own nm bytes maxL ret R H k j pc Ls st Q := by
  obtain ⟨hd, rfl⟩ := hd
  exact Wp.step (fun p e s m args below meth c T L hx hZ hby hown X hH target ht => Jvm.Stand.ldcI X hx hown (mvT hZ w) rfl (hb hby hd) ht) hr
theorem wp_ldcWI {i : Nat} {v : Int32} (hd : Dc bytes pc (.ldc_w i) 3 pc') (w : (Cond.constant own i v).before a0 Z = true) (hr : Wp b l Z own nm bytes maxL ret R H k j pc' Ls (.int v :: st) Q) : Wp b l Z own nm bytes maxL ret R H k j pc Ls st Q := by
  obtain ⟨hd, rfl⟩ := hd
  exact Wp.step (fun p e s m args below meth c T L hx hZ hby hown X hH target ht => Jvm.Stand.ldcWI X hx hown (mvT hZ w) rfl (hb hby hd) ht) hr
theorem wp_ldc2J {i : Nat} {v : Int64} (hd : Dc bytes pc (.ldc2_w i) 3 pc') (w : (Cond.constantLong own i v).before a0 Z = true) (hr : Wp b l Z own nm bytes maxL ret R H k j pc' Ls (.long v :: st) Q) : Wp b l Z own nm bytes maxL ret R H k j pc Ls st Q := by
  obtain ⟨hd, rfl⟩ := hd
  exact Wp.step (fun p e s m args below meth c T L hx hZ hby hown X hH target ht => Jvm.Stand.ldc2J X hx hown (mvT hZ w) rfl (hb hby hd) ht) hr
theorem wp_instNull {i : Nat} (hd : Dc bytes pc (.instanceof i) 3 pc')  (hr : Wp b l Z own nm bytes maxL ret R H k j pc' Ls (.int 0 :: st) Q) : Wp b l Z own nm bytes maxL ret R H k j pc Ls (.null :: st) Q := by
  obtain ⟨hd, rfl⟩ := hd
  exact Wp.step (fun p e s m args below meth c T L hx hZ hby hown X hH target ht => X.instanceofNull hx (g := mkF m pc Ls (.null :: st)) rfl rfl (hb hby hd) _ ht) hr
theorem wp_castNull {i : Nat} (hd : Dc bytes pc (.checkcast i) 3 pc')  (hr : Wp b l Z own nm bytes maxL ret R H k j pc' Ls (.null :: st) Q) : Wp b l Z own nm bytes maxL ret R H k j pc Ls (.null :: st) Q := by
  obtain ⟨hd, rfl⟩ := hd
  exact Wp.step (fun p e s m args below meth c T L hx hZ hby hown X hH target ht => X.checkcastNull hx (g := mkF m pc Ls (.null :: st)) rfl rfl (hb hby hd) _ ht) hr
theorem wp_goto {o : Int} {n pc'' : Nat} (hd : Dc bytes pc (.goto o) 3 n) (ht : Tg pc o pc'') (hr : Wp b l Z own nm bytes maxL ret R H k j pc'' Ls st Q) : Wp b l Z own nm bytes maxL ret R H k j pc Ls st Q :=
  Wp.step (fun p e s m args below meth c T L hx hZ hby hown X hH target h => XS.goto X.here hx rfl rfl (hb hby hd.1) ht.1 ht.2 h) hr
theorem wp_icmp {cd : ClassFile.Cond} {o : Int} {x y : Int32} {pc'' : Nat} (hd : Dc bytes pc (.if_icmp cd o) 3 pc') (ht : Tg pc o pc'') (hy : if_icmp.holds cd x y = true → Wp b l Z own nm bytes maxL ret R H k j pc'' Ls st Q) (hn : if_icmp.holds cd x y = false → Wp b l Z own nm bytes maxL ret R H k j pc' Ls st Q) : Wp b l Z own nm bytes maxL ret R H k j pc Ls (.int y :: .int x :: st) Q := by
  obtain ⟨hd, rfl⟩ := hd
  cases hc : if_icmp.holds cd x y with
  | true => exact Wp.step (fun p e s m args below meth c T L hx hZ hby hown X hH target h => XS.icmpYes X.here hx rfl rfl (hb hby hd) rfl hc ht.1 ht.2 h) (hy hc)
  | false => exact Wp.step (fun p e s m args below meth c T L hx hZ hby hown X hH target h => XS.icmpNo X.here hx rfl (hb hby hd) rfl hc h) (hn hc)
theorem wp_if {cd : ClassFile.Cond} {o : Int} {x : Int32} {pc'' : Nat} (hd : Dc bytes pc (.ifCond cd o) 3 pc') (ht : Tg pc o pc'') (hy : ifCond.holds cd x = true → Wp b l Z own nm bytes maxL ret R H k j pc'' Ls st Q) (hn : ifCond.holds cd x = false → Wp b l Z own nm bytes maxL ret R H k j pc' Ls st Q) : Wp b l Z own nm bytes maxL ret R H k j pc Ls (.int x :: st) Q := by
  obtain ⟨hd, rfl⟩ := hd
  cases hc : ifCond.holds cd x with
  | true => exact Wp.step (fun p e s m args below meth c T L hx hZ hby hown X hH target h => XS.ifYes X.here hx rfl rfl (hb hby hd) rfl hc ht.1 ht.2 h) (hy hc)
  | false => exact Wp.step (fun p e s m args below meth c T L hx hZ hby hown X hH target h => XS.ifNo X.here hx rfl (hb hby hd) rfl hc h) (hn hc)
theorem icmp_holds (cd : ClassFile.Cond) (x y : Int32) : (if_icmp.holds .eq x y = decide (x = y)) ∧ (if_icmp.holds .ne x y = !decide (x = y)) ∧ (if_icmp.holds .lt x y = decide (x < y)) ∧ (if_icmp.holds .ge x y = !decide (x < y)) ∧ (if_icmp.holds .gt x y = decide (y < x)) ∧ (if_icmp.holds .le x y = !decide (y < x)) := by
  refine ⟨?_, ?_, ?_, ?_, ?_, ?_⟩
  · by_cases h : x = y <;> simp [h, if_icmp.holds]
  · by_cases h : x = y <;> simp [h, if_icmp.holds]
  · by_cases h : x < y <;> simp [h, if_icmp.holds]
  · by_cases h : x < y
    · simp [h, (tlt h).2.1]
    · simp [h, (flt h).2.1]
  · by_cases h : y < x
    · simp [h, (tlt h).2.2.1]
    · simp [h, (flt h).2.2.1]
  · by_cases h : y < x
    · simp [h, (tlt h).2.2.2]
    · simp [h, (flt h).2.2.2]
theorem wp_icmp_eq {o : Int} {x y : Int32} {pc'' : Nat} (hd : Dc bytes pc (.if_icmp .eq o) 3 pc') (ht : Tg pc o pc'') (hy : x = y → Wp b l Z own nm bytes maxL ret R H k j pc'' Ls st Q) (hn : ¬ x = y → Wp b l Z own nm bytes maxL ret R H k j pc' Ls st Q) : Wp b l Z own nm bytes maxL ret R H k j pc Ls (.int y :: .int x :: st) Q :=
  wp_icmp hd ht (fun h => hy (by rw [(icmp_holds .eq x y).1] at h; simpa using h)) (fun h => hn (by rw [(icmp_holds .eq x y).1] at h; simpa using h))
theorem wp_if_eq {o : Int} {x : Int32} {pc'' : Nat} (hd : Dc bytes pc (.ifCond .eq o) 3 pc') (ht : Tg pc o pc'') (hy : x = 0 → Wp b l Z own nm bytes maxL ret R H k j pc'' Ls st Q) (hn : ¬ x = 0 → Wp b l Z own nm bytes maxL ret R H k j pc' Ls st Q) : Wp b l Z own nm bytes maxL ret R H k j pc Ls (.int x :: st) Q :=
  wp_if hd ht (fun h => hy (by rw [if0, (icmp_holds .eq x 0).1] at h; simpa using h)) (fun h => hn (by rw [if0, (icmp_holds .eq x 0).1] at h; simpa using h))
theorem wp_icmp_ne {o : Int} {x y : Int32} {pc'' : Nat} (hd : Dc bytes pc (.if_icmp .ne o) 3 pc') (ht : Tg pc o pc'') (hy : ¬ x = y → Wp b l Z own nm bytes maxL ret R H k j pc'' Ls st Q) (hn : x = y → Wp b l Z own nm bytes maxL ret R H k j pc' Ls st Q) : Wp b l Z own nm bytes maxL ret R H k j pc Ls (.int y :: .int x :: st) Q :=
  wp_icmp hd ht (fun h => hy (by rw [(icmp_holds .eq x y).2.1] at h; simpa using h)) (fun h => hn (by rw [(icmp_holds .eq x y).2.1] at h; simpa using h))
theorem wp_if_ne {o : Int} {x : Int32} {pc'' : Nat} (hd : Dc bytes pc (.ifCond .ne o) 3 pc') (ht : Tg pc o pc'') (hy : ¬ x = 0 → Wp b l Z own nm bytes maxL ret R H k j pc'' Ls st Q) (hn : x = 0 → Wp b l Z own nm bytes maxL ret R H k j pc' Ls st Q) : Wp b l Z own nm bytes maxL ret R H k j pc Ls (.int x :: st) Q :=
  wp_if hd ht (fun h => hy (by rw [if0, (icmp_holds .eq x 0).2.1] at h; simpa using h)) (fun h => hn (by rw [if0, (icmp_holds .eq x 0).2.1] at h; simpa using h))
theorem wp_icmp_lt {o : Int} {x y : Int32} {pc'' : Nat} (hd : Dc bytes pc (.if_icmp .lt o) 3 pc') (ht : Tg pc o pc'') (hy : x < y → Wp b l Z own nm bytes maxL ret R H k j pc'' Ls st Q) (hn : ¬ x < y → Wp b l Z own nm bytes maxL ret R H k j pc' Ls st Q) : Wp b l Z own nm bytes maxL ret R H k j pc Ls (.int y :: .int x :: st) Q :=
  wp_icmp hd ht (fun h => hy (by rw [(icmp_holds .eq x y).2.2.1] at h; simpa using h)) (fun h => hn (by rw [(icmp_holds .eq x y).2.2.1] at h; simpa using h))
theorem wp_if_lt {o : Int} {x : Int32} {pc'' : Nat} (hd : Dc bytes pc (.ifCond .lt o) 3 pc') (ht : Tg pc o pc'') (hy : x < 0 → Wp b l Z own nm bytes maxL ret R H k j pc'' Ls st Q) (hn : ¬ x < 0 → Wp b l Z own nm bytes maxL ret R H k j pc' Ls st Q) : Wp b l Z own nm bytes maxL ret R H k j pc Ls (.int x :: st) Q :=
  wp_if hd ht (fun h => hy (by rw [if0, (icmp_holds .eq x 0).2.2.1] at h; simpa using h)) (fun h => hn (by rw [if0, (icmp_holds .eq x 0).2.2.1] at h; simpa using h))
theorem wp_icmp_ge {o : Int} {x y : Int32} {pc'' : Nat} (hd : Dc bytes pc (.if_icmp .ge o) 3 pc') (ht : Tg pc o pc'') (hy : ¬ x < y → Wp b l Z own nm bytes maxL ret R H k j pc'' Ls st Q) (hn : x < y → Wp b l Z own nm bytes maxL ret R H k j pc' Ls st Q) : Wp b l Z own nm bytes maxL ret R H k j pc Ls (.int y :: .int x :: st) Q :=
  wp_icmp hd ht (fun h => hy (by rw [(icmp_holds .eq x y).2.2.2.1] at h; simpa using h)) (fun h => hn (by rw [(icmp_holds .eq x y).2.2.2.1] at h; simpa using h))
theorem wp_if_ge {o : Int} {x : Int32} {pc'' : Nat} (hd : Dc bytes pc (.ifCond .ge o) 3 pc') (ht : Tg pc o pc'') (hy : ¬ x < 0 → Wp b l Z own nm bytes maxL ret R H k j pc'' Ls st Q) (hn : x < 0 → Wp b l Z own nm bytes maxL ret R H k j pc' Ls st Q) : Wp b l Z own nm bytes maxL ret R H k j pc Ls (.int x :: st) Q :=
  wp_if hd ht (fun h => hy (by rw [if0, (icmp_holds .eq x 0).2.2.2.1] at h; simpa using h)) (fun h => hn (by rw [if0, (icmp_holds .eq x 0).2.2.2.1] at h; simpa using h))
theorem wp_icmp_gt {o : Int} {x y : Int32} {pc'' : Nat} (hd : Dc bytes pc (.if_icmp .gt o) 3 pc') (ht : Tg pc o pc'') (hy : y < x → Wp b l Z own nm bytes maxL ret R H k j pc'' Ls st Q) (hn : ¬ y < x → Wp b l Z own nm bytes maxL ret R H k j pc' Ls st Q) : Wp b l Z own nm bytes maxL ret R H k j pc Ls (.int y :: .int x :: st) Q :=
  wp_icmp hd ht (fun h => hy (by rw [(icmp_holds .eq x y).2.2.2.2.1] at h; simpa using h)) (fun h => hn (by rw [(icmp_holds .eq x y).2.2.2.2.1] at h; simpa using h))
theorem wp_if_gt {o : Int} {x : Int32} {pc'' : Nat} (hd : Dc bytes pc (.ifCond .gt o) 3 pc') (ht : Tg pc o pc'') (hy : 0 < x → Wp b l Z own nm bytes maxL ret R H k j pc'' Ls st Q) (hn : ¬ 0 < x → Wp b l Z own nm bytes maxL ret R H k j pc' Ls st Q) : Wp b l Z own nm bytes maxL ret R H k j pc Ls (.int x :: st) Q :=
  wp_if hd ht (fun h => hy (by rw [if0, (icmp_holds .eq x 0).2.2.2.2.1] at h; simpa using h)) (fun h => hn (by rw [if0, (icmp_holds .eq x 0).2.2.2.2.1] at h; simpa using h))
theorem wp_icmp_le {o : Int} {x y : Int32} {pc'' : Nat} (hd : Dc bytes pc (.if_icmp .le o) 3 pc') (ht : Tg pc o pc'') (hy : ¬ y < x → Wp b l Z own nm bytes maxL ret R H k j pc'' Ls st Q) (hn : y < x → Wp b l Z own nm bytes maxL ret R H k j pc' Ls st Q) : Wp b l Z own nm bytes maxL ret R H k j pc Ls (.int y :: .int x :: st) Q :=
  wp_icmp hd ht (fun h => hy (by rw [(icmp_holds .eq x y).2.2.2.2.2] at h; simpa using h)) (fun h => hn (by rw [(icmp_holds .eq x y).2.2.2.2.2] at h; simpa using h))
theorem wp_if_le {o : Int} {x : Int32} {pc'' : Nat} (hd : Dc bytes pc (.ifCond .le o) 3 pc') (ht : Tg pc o pc'') (hy : ¬ 0 < x → Wp b l Z own nm bytes maxL ret R H k j pc'' Ls st Q) (hn : 0 < x → Wp b l Z own nm bytes maxL ret R H k j pc' Ls st Q) : Wp b l Z own nm bytes maxL ret R H k j pc Ls (.int x :: st) Q :=
  wp_if hd ht (fun h => hy (by rw [if0, (icmp_holds .eq x 0).2.2.2.2.2] at h; simpa using h)) (fun h => hn (by rw [if0, (icmp_holds .eq x 0).2.2.2.2.2] at h; simpa using h))
theorem cmpL_0 (x y : Int64) : (XT.cmpL x y = 0 ↔ x = y) ∧ (XT.cmpL x y < 0 ↔ x < y) ∧ (0 < XT.cmpL x y ↔ y < x) := by
  unfold XT.cmpL
  by_cases h1 : y < x
  · have h2 : ¬ x = y := by rintro rfl; exact absurd h1 (by simp [Int64.lt_iff_toInt_lt])
    have h3 : ¬ x < y := by rw [Int64.lt_iff_toInt_lt] at h1 ⊢; omega
    simp [h1, h2, h3]
  · by_cases h2 : x = y
    · subst h2; simp [Int64.lt_iff_toInt_lt]
    · have h3 : x < y := by rw [Int64.lt_iff_toInt_lt] at h1 ⊢; have := mt Int64.toInt_inj.mp h2; omega
      simp [h1, h2, h3]
theorem wp_lcmp_eq {o : Int} {x y : Int64} {pc1 pc'' : Nat} (hd0 : Dc bytes pc .lcmp 1 pc1) (hd : Dc bytes pc1 (.ifCond .eq o) 3 pc') (ht : Tg pc1 o pc'') (hy : x = y → Wp b l Z own nm bytes maxL ret R H k j pc'' Ls st Q) (hn : ¬ x = y → Wp b l Z own nm bytes maxL ret R H k j pc' Ls st Q) : Wp b l Z own nm bytes maxL ret R H k j pc Ls (.long y :: .long x :: st) Q :=
  wp_lcmp hd0 (wp_if_eq hd ht (fun h => hy (by rw [(cmpL_0 x y).1] at h; exact h)) (fun h => hn (by rw [(cmpL_0 x y).1] at h; exact h)))
theorem wp_lcmp_ne {o : Int} {x y : Int64} {pc1 pc'' : Nat} (hd0 : Dc bytes pc .lcmp 1 pc1) (hd : Dc bytes pc1 (.ifCond .ne o) 3 pc') (ht : Tg pc1 o pc'') (hy : ¬ x = y → Wp b l Z own nm bytes maxL ret R H k j pc'' Ls st Q) (hn : x = y → Wp b l Z own nm bytes maxL ret R H k j pc' Ls st Q) : Wp b l Z own nm bytes maxL ret R H k j pc Ls (.long y :: .long x :: st) Q :=
  wp_lcmp hd0 (wp_if_ne hd ht (fun h => hy (by rw [(cmpL_0 x y).1] at h; exact h)) (fun h => hn (by rw [(cmpL_0 x y).1] at h; exact h)))
theorem wp_lcmp_lt {o : Int} {x y : Int64} {pc1 pc'' : Nat} (hd0 : Dc bytes pc .lcmp 1 pc1) (hd : Dc bytes pc1 (.ifCond .lt o) 3 pc') (ht : Tg pc1 o pc'') (hy : x < y → Wp b l Z own nm bytes maxL ret R H k j pc'' Ls st Q) (hn : ¬ x < y → Wp b l Z own nm bytes maxL ret R H k j pc' Ls st Q) : Wp b l Z own nm bytes maxL ret R H k j pc Ls (.long y :: .long x :: st) Q :=
  wp_lcmp hd0 (wp_if_lt hd ht (fun h => hy (by rw [(cmpL_0 x y).2.1] at h; exact h)) (fun h => hn (by rw [(cmpL_0 x y).2.1] at h; exact h)))
theorem wp_lcmp_ge {o : Int} {x y : Int64} {pc1 pc'' : Nat} (hd0 : Dc bytes pc .lcmp 1 pc1) (hd : Dc bytes pc1 (.ifCond .ge o) 3 pc') (ht : Tg pc1 o pc'') (hy : ¬ x < y → Wp b l Z own nm bytes maxL ret R H k j pc'' Ls st Q) (hn : x < y → Wp b l Z own nm bytes maxL ret R H k j pc' Ls st Q) : Wp b l Z own nm bytes maxL ret R H k j pc Ls (.long y :: .long x :: st) Q :=
  wp_lcmp hd0 (wp_if_ge hd ht (fun h => hy (by rw [(cmpL_0 x y).2.1] at h; exact h)) (fun h => hn (by rw [(cmpL_0 x y).2.1] at h; exact h)))
theorem wp_lcmp_gt {o : Int} {x y : Int64} {pc1 pc'' : Nat} (hd0 : Dc bytes pc .lcmp 1 pc1) (hd : Dc bytes pc1 (.ifCond .gt o) 3 pc') (ht : Tg pc1 o pc'') (hy : y < x → Wp b l Z own nm bytes maxL ret R H k j pc'' Ls st Q) (hn : ¬ y < x → Wp b l Z own nm bytes maxL ret R H k j pc' Ls st Q) : Wp b l Z own nm bytes maxL ret R H k j pc Ls (.long y :: .long x :: st) Q :=
  wp_lcmp hd0 (wp_if_gt hd ht (fun h => hy (by rw [(cmpL_0 x y).2.2] at h; exact h)) (fun h => hn (by rw [(cmpL_0 x y).2.2] at h; exact h)))
theorem wp_lcmp_le {o : Int} {x y : Int64} {pc1 pc'' : Nat} (hd0 : Dc bytes pc .lcmp 1 pc1) (hd : Dc bytes pc1 (.ifCond .le o) 3 pc') (ht : Tg pc1 o pc'') (hy : ¬ y < x → Wp b l Z own nm bytes maxL ret R H k j pc'' Ls st Q) (hn : y < x → Wp b l Z own nm bytes maxL ret R H k j pc' Ls st Q) : Wp b l Z own nm bytes maxL ret R H k j pc Ls (.long y :: .long x :: st) Q :=
  wp_lcmp hd0 (wp_if_le hd ht (fun h => hy (by rw [(cmpL_0 x y).2.2] at h; exact h)) (fun h => hn (by rw [(cmpL_0 x y).2.2] at h; exact h)))
theorem wp_ifnull_y {o : Int} {n pc'' : Nat} (hd : Dc bytes pc (.ifnull o) 3 n) (ht : Tg pc o pc'') (hr : Wp b l Z own nm bytes maxL ret R H k j pc'' Ls st Q) : Wp b l Z own nm bytes maxL ret R H k j pc Ls (.null :: st) Q :=
  Wp.step (fun p e s m args below meth c T L hx hZ hby hown X hH target h => XS.ifnullYes X.here hx rfl rfl (hb hby hd.1) rfl ht.1 ht.2 h) hr
theorem wp_ifnull_n {o : Int} {x : Addr} (hd : Dc bytes pc (.ifnull o) 3 pc') (hr : Wp b l Z own nm bytes maxL ret R H k j pc' Ls st Q) : Wp b l Z own nm bytes maxL ret R H k j pc Ls (.ref x :: st) Q := by
  obtain ⟨hd, rfl⟩ := hd
  exact Wp.step (fun p e s m args below meth c T L hx hZ hby hown X hH target h => XS.ifnullNo X.here hx rfl (hb hby hd) rfl h) hr
theorem wp_ifnonnull_y {o : Int} {x : Addr} {n pc'' : Nat} (hd : Dc bytes pc (.ifnonnull o) 3 n) (ht : Tg pc o pc'') (hr : Wp b l Z own nm bytes maxL ret R H k j pc'' Ls st Q) : Wp b l Z own nm bytes maxL ret R H k j pc Ls (.ref x :: st) Q :=
  Wp.step (fun p e s m args below meth c T L hx hZ hby hown X hH target h => XT.ifnonnullYes X.here hx rfl rfl (hb hby hd.1) rfl ht.1 ht.2 h) hr
theorem wp_ifnonnull_n {o : Int} (hd : Dc bytes pc (.ifnonnull o) 3 pc') (hr : Wp b l Z own nm bytes maxL ret R H k j pc' Ls st Q) : Wp b l Z own nm bytes maxL ret R H k j pc Ls (.null :: st) Q := by
  obtain ⟨hd, rfl⟩ := hd
  exact Wp.step (fun p e s m args below meth c T L hx hZ hby hown X hH target h => XT.ifnonnullNo X.here hx rfl (hb hby hd) rfl h) hr
theorem wp_acmp {cd : ClassFile.ACond} {o : Int} {x y : Value} {pc'' : Nat} (hd : Dc bytes pc (.if_acmp cd o) 3 pc') (ht : Tg pc o pc'') (h1 : x.isRef = true) (h2 : y.isRef = true) (hy : acV cd (decide (x = y)) = true → Wp b l Z own nm bytes maxL ret R H k j pc'' Ls st Q) (hn : acV cd (decide (x = y)) = false → Wp b l Z own nm bytes maxL ret R H k j pc' Ls st Q) : Wp b l Z own nm bytes maxL ret R H k j pc Ls (y :: x :: st) Q := by
  obtain ⟨hd, rfl⟩ := hd
  cases hc : acV cd (decide (x = y)) with
  | true => exact Wp.step (fun p e s m args below meth c T L hx hZ hby hown X hH target h => acmp X hx rfl h1 h2 (pc0 := pc) rfl (hb hby hd) rfl rfl ht.1 (by rw [if_pos hc]; exact ht.2.symm) h) (hy hc)
  | false => exact Wp.step (fun p e s m args below meth c T L hx hZ hby hown X hH target h => acmp X hx rfl h1 h2 (pc0 := pc) rfl (hb hby hd) rfl rfl ht.1 (by rw [hc]; rfl) h) (hn hc)
theorem wp_acmp_eq {o : Int} {x y : Value} {pc'' : Nat} (hd : Dc bytes pc (.if_acmp .eq o) 3 pc') (ht : Tg pc o pc'') (h1 : x.isRef = true) (h2 : y.isRef = true) (hy : x = y → Wp b l Z own nm bytes maxL ret R H k j pc'' Ls st Q) (hn : ¬ x = y → Wp b l Z own nm bytes maxL ret R H k j pc' Ls st Q) : Wp b l Z own nm bytes maxL ret R H k j pc Ls (y :: x :: st) Q :=
  wp_acmp hd ht h1 h2 (fun h => hy (by simpa [acV] using h)) (fun h => hn (by simpa [acV] using h))
theorem wp_acmp_ne {o : Int} {x y : Value} {pc'' : Nat} (hd : Dc bytes pc (.if_acmp .ne o) 3 pc') (ht : Tg pc o pc'') (h1 : x.isRef = true) (h2 : y.isRef = true) (hy : ¬ x = y → Wp b l Z own nm bytes maxL ret R H k j pc'' Ls st Q) (hn : x = y → Wp b l Z own nm bytes maxL ret R H k j pc' Ls st Q) : Wp b l Z own nm bytes maxL ret R H k j pc Ls (y :: x :: st) Q :=
  wp_acmp hd ht h1 h2 (fun h => hy (by simpa [acV] using h)) (fun h => hn (by simpa [acV] using h))
theorem wp_return  (hd : Dc bytes pc .return_ 1 pc') (hr : ret = none) (hk : k ≤ R.cells) (hj : j ≤ R.slots) (hQ : Q none H) : Wp b l Z own nm bytes maxL ret R H k j pc Ls [] Q :=
  fun p e s vm0 k0 m args below meth c T L hx hZ hS hkz hby hml hown hnm hret X N hH hB => ⟨T, none, L, k, j, vm0, k0, H, ⟨hS, hkz, fun _ => rfl⟩, X, ⟨hk, hj, Nat.le_refl _⟩, N, hH, fun h => by first | rfl | (rw [hr] at h; cases h), hQ, fun fs hl => X.returnOut hx (hret.trans hr) (hb hby hd.1) hl⟩
theorem wp_ireturn {x : Int32} (hd : Dc bytes pc .ireturn 1 pc') (hr : ret = some .int) (hk : k ≤ R.cells) (hj : j ≤ R.slots) (hQ : Q (some (.int x)) H) : Wp b l Z own nm bytes maxL ret R H k j pc Ls (.int x :: st) Q :=
  fun p e s vm0 k0 m args below meth c T L hx hZ hS hkz hby hml hown hnm hret X N hH hB => ⟨T, (some (.int x)), L, k, j, vm0, k0, H, ⟨hS, hkz, fun _ => rfl⟩, X, ⟨hk, hj, Nat.le_refl _⟩, N, hH, fun h => by first | rfl | (rw [hr] at h; cases h), hQ, fun fs hl => retOut X hx (hret.trans hr) rfl (Or.inl ⟨rfl, Or.inl rfl, x, rfl⟩) (hb hby hd.1) hl⟩
theorem wp_ireturnN {x : Int32} {t : FieldType} (hd : Dc bytes pc .ireturn 1 pc') (hr : ret = some t) (ht : t = .boolean ∨ t = .byte ∨ t = .char ∨ t = .short) (hk : k ≤ R.cells) (hj : j ≤ R.slots) (hQ : Q (some (.int (nar t x))) H) : Wp b l Z own nm bytes maxL ret R H k j pc Ls (.int x :: st) Q :=
  fun p e s vm0 k0 m args below meth c T L hx hZ hS hkz hby hml hown hnm hret X N hH hB => ⟨T, (some (.int (nar t x))), L, k, j, vm0, k0, H, ⟨hS, hkz, fun _ => rfl⟩, X, ⟨hk, hj, Nat.le_refl _⟩, N, hH, fun h => by first | rfl | (rw [hr] at h; cases h), hQ, fun fs hl => retN X hx (hret.trans hr) ht (hb hby hd.1) hl⟩
theorem wp_lreturn {x : Int64} (hd : Dc bytes pc .lreturn 1 pc') (hr : ret = some .long) (hk : k ≤ R.cells) (hj : j ≤ R.slots) (hQ : Q (some (.long x)) H) : Wp b l Z own nm bytes maxL ret R H k j pc Ls (.long x :: st) Q :=
  fun p e s vm0 k0 m args below meth c T L hx hZ hS hkz hby hml hown hnm hret X N hH hB => ⟨T, (some (.long x)), L, k, j, vm0, k0, H, ⟨hS, hkz, fun _ => rfl⟩, X, ⟨hk, hj, Nat.le_refl _⟩, N, hH, fun h => by first | rfl | (rw [hr] at h; cases h), hQ, fun fs hl => retOut X hx (hret.trans hr) rfl (Or.inr (Or.inl ⟨rfl, rfl, x, rfl⟩)) (hb hby hd.1) hl⟩
theorem wp_areturn {x : Value} {t : FieldType} (hd : Dc bytes pc .areturn 1 pc') (hr : ret = some t) (ht : t.isReference = true) (hn : narrow t x = x) (hv : x.isRef = true) (hk : k ≤ R.cells) (hj : j ≤ R.slots) (hQ : Q (some x) H) : Wp b l Z own nm bytes maxL ret R H k j pc Ls (x :: st) Q :=
  fun p e s vm0 k0 m args below meth c T L hx hZ hS hkz hby hml hown hnm hret X N hH hB => ⟨T, (some x), L, k, j, vm0, k0, H, ⟨hS, hkz, fun _ => rfl⟩, X, ⟨hk, hj, Nat.le_refl _⟩, N, hH, fun h => by first | rfl | (rw [hr] at h; cases h), hQ, fun fs hl => retOut X hx (hret.trans hr) hn (Or.inr (Or.inr (Or.inr (Or.inr ⟨rfl, ht, hv⟩)))) (hb hby hd.1) hl⟩
def FldAt (Z : State) (H : OH) (a : Addr) (O n d : String) (v : Value) : Prop := ∀ h, Hp Z h H → Fld Z h a O n d v
def ExaAt (Z : State) (H : OH) (a : Addr) (C : String) : Prop := ∀ h, Hp Z h H → Exa Z h a C
theorem fld_new {i fi : Nat} {a : Addr} {fl : Bool} {C O n d : String} {sg : OSig} {vs : List Value} {v : Value} (hi : H[i]? = some (a, (fl, .inl (C, sg, vs)))) (hf : sg[fi]? = some (O, n, d)) (hv : vs[fi]? = some v) : FldAt Z H a O n d v := fun h P => (P.at hi).2.2.2 fi _ v hf hv
theorem fld_old {a : Addr} {O n d : String} {v : Value} (F : Fld Z Z.heap a O n d v) : FldAt Z H a O n d v := fun h P => F.ext P.1
theorem exa_new {i : Nat} {a : Addr} {fl : Bool} {C : String} {sg : OSig} {vs : List Value} (hi : H[i]? = some (a, (fl, .inl (C, sg, vs)))) : ExaAt Z H a C := fun h P => (P.at hi).2.1
theorem exa_old {a : Addr} {C : String} (F : Exa Z Z.heap a C) : ExaAt Z H a C := fun h P => F.ext P.1
theorem wp_getfield {a : Addr} {O n d : String} {v : Value} {idx : Nat} (hd : Dc bytes pc (.getfield idx) 3 pc') (w : (Cond.fieldLink own idx O n d).before a0 Z = true) (F : FldAt Z H a O n d v) (hr : Wp b l Z own nm bytes maxL ret R H k j pc' Ls (v :: st) Q) : Wp b l Z own nm bytes maxL ret R H k j pc Ls (.ref a :: st) Q := by
  obtain ⟨hd, rfl⟩ := hd
  refine Wp.stepH fun p e s m args below meth c T L hx hZ hby hml hown hnm hret X N hH => ?_
  obtain ⟨T', X', e', stp⟩ := getF X hx hZ hown (host := "") (Or.inl w) Via.refl rfl (F _ hH) (g := mkF m pc Ls (.ref a :: st)) rfl rfl (hb hby hd)
  exact ⟨T', L, k, j, H, _, Ls, v :: st, X', by rw [e']; exact Nat.le_refl _, N, by rw [e']; exact hH, hr, stp⟩
theorem wp_getfieldVia {a : Addr} {R0 O n d : String} {v : Value} {idx : Nat} (hd : Dc bytes pc (.getfield idx) 3 pc') (w : (Cond.fieldLink own idx R0 n d).before a0 Z = true) (via : Via Z R0 O n d) (F : FldAt Z H a O n d v) (hr : Wp b l Z own nm bytes maxL ret R H k j pc' Ls (v :: st) Q) : Wp b l Z own nm bytes maxL ret R H k j pc Ls (.ref a :: st) Q := by
  obtain ⟨hd, rfl⟩ := hd
  refine Wp.stepH fun p e s m args below meth c T L hx hZ hby hml hown hnm hret X N hH => ?_
  obtain ⟨T', X', e', stp⟩ := getF X hx hZ hown (host := "") (Or.inl w) via rfl (F _ hH) (g := mkF m pc Ls (.ref a :: st)) rfl rfl (hb hby hd)
  exact ⟨T', L, k, j, H, _, Ls, v :: st, X', by rw [e']; exact Nat.le_refl _, N, by rw [e']; exact hH, hr, stp⟩
theorem wp_getstatic {O n d : String} {v : Value} {idx : Nat} (hd : Dc bytes pc (.getstatic idx) 3 pc') (w : (Cond.fieldLink own idx O n d).before a0 Z = true) (F : Sta Z Z.heap O n d v) (hr : Wp b l Z own nm bytes maxL ret R H k j pc' Ls (v :: st) Q) : Wp b l Z own nm bytes maxL ret R H k j pc Ls st Q := by
  obtain ⟨hd, rfl⟩ := hd
  refine Wp.stepH fun p e s m args below meth c T L hx hZ hby hml hown hnm hret X N hH => ?_
  obtain ⟨T', X', e', stp⟩ := getS (host := "") X hx hZ hown w Via.refl rfl (F.ext hH.1) (g := mkF m pc Ls st) rfl (hb hby hd)
  exact ⟨T', L, k, j, H, _, Ls, v :: st, X', by rw [e']; exact Nat.le_refl _, N, by rw [e']; exact hH, hr, stp⟩
theorem Sat.put {h h' : Heap} {a : Addr} {C O n d : String} {sg : OSig} {vs : List Value} {fi : Nat} {v : Value} (S : Sat Z h a (.inl (C, sg, vs))) (hf : sg[fi]? = some (O, n, d)) (W : Wr h h' a (Jvm.RoadKit.slotOf Z O n d) v) : Sat Z h' a (.inl (C, sg, vs.set fi v)) := by
  obtain ⟨S1, S2, S3⟩ := S
  refine ⟨S1.wr W, S2, fun i f u q r => ?_⟩
  rw [List.getElem?_set] at r
  split at r
  · rename_i e; subst e
    split at r
    · rename_i hlt
      cases r
      cases hf.symm.trans q
      exact (S3 fi _ _ hf (List.getElem?_eq_getElem hlt)).same W
    · cases r
  · rename_i ne
    refine (S3 i f u q r).other W (Or.inr ?_)
    have hP := List.pairwise_iff_getElem.mp S2
    obtain ⟨h1, e1⟩ := List.getElem?_eq_some_iff.mp q
    obtain ⟨h2, e2⟩ := List.getElem?_eq_some_iff.mp hf
    rcases Nat.lt_or_gt_of_ne ne with u | u
    · have := hP fi i h2 h1 u; rw [e1, e2] at this; exact Ne.symm this
    · have := hP i fi h1 h2 u; rw [e1, e2] at this; exact this
theorem wp_putfield {i fi kk : Nat} {a : Addr} {C O n d : String} {sg : OSig} {vs : List Value} {v old : Value} {ty : FieldType} {idx : Nat} (hd : Dc bytes pc (.putfield idx) 3 pc') (w : (Cond.fieldLink own idx O n d).before a0 Z = true) (hi : H[i]? = some (a, oI C sg vs)) (hf : sg[fi]? = some (O, n, d)) (ho : vs[fi]? = some old) (L0 : (Cond.lays C O n d).before a0 Z = true ∨ ((Cond.laysFinal C O n d).before a0 Z = true ∧ own = O ∧ nm = "<init>")) (wi : (Cond.instantiable C kk).before a0 Z = true) (hty : parseFieldDescriptor d = some ty) (hn : narrow ty v = v) (hfit : fits ty v = true) (hr : Wp b l Z own nm bytes maxL ret R (H.set i (a, oI C sg (vs.set fi v))) k j pc' Ls st Q) : Wp b l Z own nm bytes maxL ret R H k j pc Ls (v :: .ref a :: st) Q := by
  obtain ⟨hd, rfl⟩ := hd
  refine Wp.stepH fun p e s m args below meth c T L hx hZ hby hml hown hnm hret X N hH => ?_
  have S := (hH.at hi).2
  obtain ⟨T', h', X', e', W', stp⟩ := putF X hx hZ hown (host := "") (Or.inl w) Via.refl rfl (S.2.2 fi _ _ hf ho) S.1 (L0.imp id fun q => ⟨q.1, q.2.1, hnm.trans q.2.2⟩) wi hty hn hfit (g := mkF m pc Ls (v :: .ref a :: st)) rfl rfl (hb hby hd)
  subst e'
  exact ⟨T', _, k, j, _, _, Ls, st, X', by rw [W'.size]; exact Nat.le_refl _, Fr.snoc X' N ((hH.at hi).1 rfl), hH.set hi W' (S.put hf W'), hr, stp⟩
def Dfl : OSig → List Value → Prop
  | [], [] => True
  | f :: sg, v :: vs => (∃ ty, parseFieldDescriptor f.2.2 = some ty ∧ defaultValue ty = v) ∧ Dfl sg vs
  | _, _ => False
theorem Dfl.at : ∀ {sg : OSig} {vs : List Value}, Dfl sg vs → ∀ (i : Nat) (f : String × String × String) (v : Value), sg[i]? = some f → vs[i]? = some v → ∃ ty, parseFieldDescriptor f.2.2 = some ty ∧ defaultValue ty = v
  | [], [], _, i, f, v, q, _ => by simp at q
  | f :: sg, v :: vs, D, 0, f', v', q, r => by simp at q r; subst q r; exact D.1
  | f :: sg, v :: vs, D, i + 1, f', v', q, r => D.2.at i f' v' (by simpa using q) (by simpa using r)
  | [], _ :: _, D, _, _, _, _, _ => D.elim
  | _ :: _, [], D, _, _, _, _, _ => D.elim
theorem Dfl.parse : ∀ {sg : OSig} {vs : List Value}, Dfl sg vs → ∀ f ∈ sg, ∃ ty, parseFieldDescriptor f.2.2 = some ty
  | [], [], _, f, q => by simp at q
  | g :: sg, v :: vs, D, f, q => (List.mem_cons.mp q).elim (fun e => by subst e; exact ⟨D.1.choose, D.1.choose_spec.1⟩) (D.2.parse f)
  | [], _ :: _, D, _, _ => D.elim
  | _ :: _, [], D, _, _ => D.elim
theorem slo_of {C : String} {sg : OSig} {vs : List Value} (D : Dfl sg vs) (hL : ∀ f ∈ sg, Laid Z a0 C f.1 f.2.1 f.2.2) (hn : (sg.map fun f => f.2.1).Nodup) : Slo Z sg := by
  have h1 : sg.Pairwise fun f g => f.2.1 ≠ g.2.1 := List.pairwise_map.mp hn
  refine List.Pairwise.imp_of_mem (fun {f g} hf hg ne => ?_) h1
  obtain ⟨t, ht⟩ := D.parse f hf
  obtain ⟨t', ht'⟩ := D.parse g hg
  exact slot_ne (hL f hf) (hL g hg) ne ht ht'
theorem all_nil {α : Type} {P : α → Prop} : ∀ x ∈ ([] : List α), P x := fun _ q => nomatch q
theorem all_cons {α : Type} {P : α → Prop} {y : α} {L : List α} (q : P y) (r : ∀ x ∈ L, P x) : ∀ x ∈ y :: L, P x := fun x z => (List.mem_cons.mp z).elim (fun u => u ▸ q) (r x)
theorem wp_new {C : String} {idx n : Nat} (sg : OSig) (vs : List Value) (hd : Dc bytes pc (.new idx) 3 pc') (w : (Cond.classLink own idx C).before a0 Z = true) (wi : (Cond.instantiable C n).before a0 Z = true) (wz : (Cond.initialized C).before a0 Z = true) (hL : ∀ f ∈ sg, Laid Z a0 C f.1 f.2.1 f.2.2) (hn : (sg.map fun f => f.2.1).Nodup) (D : Dfl sg vs) (hc : k + 1 ≤ R.cells) (hl : j + n ≤ R.slots) (hr : ∀ a, Wp b l Z own nm bytes maxL ret R ((a, oI C sg vs) :: H) (k + 1) (j + n) pc' Ls (.ref a :: st) Q) : Wp b l Z own nm bytes maxL ret R H k j pc Ls st Q := by
  obtain ⟨hd, rfl⟩ := hd
  refine Wp.stepH fun p e s m args below meth c T L hx hZ hby hml hown hnm hret X N hH => ?_
  obtain ⟨T', h', X', e', E', A', D', -, stp⟩ := newO X hx hZ hown w wi wz rfl (g := mkF m pc Ls st) rfl (hb hby hd) hc hl
  subst e'
  refine ⟨T', L, _, _, _, _, Ls, _, X', E'.1, N, hH.cons E' (o := .inl (C, sg, vs)) ⟨A', slo_of D hL hn, fun i f v q r => ?_⟩, hr _, stp⟩
  obtain ⟨ty, t1, t2⟩ := D.at i f v q r
  rw [← t2]
  exact D' (hL f (List.mem_of_getElem? q)) t1
theorem wp_initO {a : Addr} {idx : Nat} (hd : Dc bytes pc (.invokespecial idx) 3 pc') (w1 : (Cond.methodLink own idx Lib.objectInit).before a0 Z = true) (w2 : (Cond.instanceMethod Lib.objectInit).before a0 Z = true) (w3 : (Cond.code Lib.objectInit ⟨#[0xb1]⟩ 1 none).before a0 Z = true) (hsz : Ls.size = maxL) (hf : 1 ≤ R.frames) (hl : (st.map fun v => v.category).sum + 12 ≤ R.locals) (hr : Wp b l Z own nm bytes maxL ret R H k j pc' Ls st Q) : Wp b l Z own nm bytes maxL ret R H k j pc Ls (.ref a :: st) Q := by
  obtain ⟨hd, rfl⟩ := hd
  refine Wp.stepH fun p e s m args below meth c T L hx hZ hby hml hown hnm hret X N hH => ?_
  obtain ⟨T', X', e', stp⟩ := initO X hx hZ hown w1 w2 w3 rfl (g := mkF m pc Ls (.ref a :: st)) rfl (by rw [hml]; exact hsz) rfl (hb hby hd) hf (W := (st.map fun v => v.category).sum) (by show 2 * 0 + _ ≤ _; omega) hl
  exact ⟨T', L, k, j, H, _, Ls, st, X', by rw [e']; exact Nat.le_refl _, N, by rw [e']; exact hH, hr, stp⟩
theorem wp_newarrayI {aty : ArrayType} {ty : FieldType} {n : Int32} (cnt cap : Nat) (hd : Dc bytes pc (.newarray aty) 2 pc') (hty : newarray.typeOf aty = ty) (hdef : defaultValue ty = .int 0) (hfz : fits ty (.int 0) = true) (w : (Cond.arrayClass ty).before a0 Z = true) (hn : ¬ n < 0) (hcnt : n.toNatClampNeg = cnt) (hcap : cnt ≤ cap) (hb8 : cap * 8 ≤ 536870912) (hc : k + 1 ≤ R.cells) (hl : j + cap ≤ R.slots) (hr : ∀ a, Wp b l Z own nm bytes maxL ret R ((a, oA ty (List.replicate cnt 0)) :: H) (k + 1) (j + cap) pc' Ls (.ref a :: st) Q) : Wp b l Z own nm bytes maxL ret R H k j pc Ls (.int n :: st) Q := by
  obtain ⟨hd, rfl⟩ := hd
  subst hty
  refine Wp.stepH fun p e s m args below meth c T L hx hZ hby hml hown hnm hret X N hH => ?_
  obtain ⟨T', h', cA, X', e', E', A', B', stp⟩ := newPE X hx hZ w rfl (g := mkF m pc Ls (.int n :: st)) rfl (hb hby hd) rfl hn (cap := cap) (by rw [hcnt]; exact hcap) hb8 hc hl rfl
  subst e'
  refine ⟨T', L, _, _, _, _, Ls, _, X', E'.1, N, hH.cons E' (o := .inr (.inl (_, List.replicate cnt 0))) ⟨Or.inr B', _, A', ?_, fun x hx => ?_⟩, hr _, stp⟩
  · simp [newA, hcnt, hdef]
  · rw [(List.mem_replicate.mp hx).2]; exact hfz
set_option maxHeartbeats 1000000 in
theorem wp_newarrayJ {n : Int32} (cnt cap : Nat) (hd : Dc bytes pc (.newarray .long) 2 pc') (w : (Cond.arrayClass .long).before a0 Z = true) (hn : ¬ n < 0) (hcnt : n.toNatClampNeg = cnt) (hcap : cnt ≤ cap) (hb8 : cap * 8 ≤ 536870912) (hc : k + 1 ≤ R.cells) (hl : j + cap ≤ R.slots) (hr : ∀ a, Wp b l Z own nm bytes maxL ret R ((a, oJ (List.replicate cnt 0)) :: H) (k + 1) (j + cap) pc' Ls (.ref a :: st) Q) : Wp b l Z own nm bytes maxL ret R H k j pc Ls (.int n :: st) Q := by
  obtain ⟨hd, rfl⟩ := hd
  refine Wp.stepH fun p e s m args below meth c T L hx hZ hby hml hown hnm hret X N hH => ?_
  obtain ⟨T', h', cA, X', e', E', A', B', stp⟩ := newPE (aty := .long) (ad := "[J") X hx hZ w rfl (g := mkF m pc Ls (.int n :: st)) rfl (hb hby hd) rfl hn (cap := cap) (by rw [hcnt]; exact hcap) hb8 hc hl rfl
  subst e'
  refine ⟨T', L, _, _, _, _, Ls, _, X', E'.1, N, hH.cons E' (o := .inr (.inr (.inl (List.replicate cnt 0)))) ⟨B', _, A', ?_⟩, hr _, stp⟩
  simp [newA, hcnt, defaultValue, newarray.typeOf]
theorem in_of {j : Int32} {xs : List Value} {c : Cell} {v : Value} (hs : c.slots = xs.toArray) (hj : ¬ j < 0) (hv : xs[j.toNatClampNeg]? = some v) : ¬ (j < 0 ∨ c.slots.size ≤ j.toNatClampNeg) ∧ c.slots[j.toNatClampNeg]? = some v := by
  have h1 := (List.getElem?_eq_some_iff.mp hv).1
  refine ⟨fun q => q.elim hj fun r => ?_, by rw [hs]; simpa using hv⟩
  rw [hs] at r; simp at r; omega
theorem setSlot_list {c : Cell} {xs : List Value} {n : Nat} {v : Value} (hs : c.slots = xs.toArray) : (c.setSlot n v).slots = (xs.set n v).toArray := by simp [Cell.setSlot, hs]
theorem wp_iaload {i : Nat} {a : Addr} {fl : Bool} {xs : List Int32} {n x : Int32} (m : Nat) (hd : Dc bytes pc .iaload 1 pc') (hi : H[i]? = some (a, (fl, .inr (.inl (.int, xs))))) (hn : ¬ n < 0) (hm : n.toNatClampNeg = m) (hv : xs[m]? = some x) (hr : Wp b l Z own nm bytes maxL ret R H k j pc' Ls (.int x :: st) Q) : Wp b l Z own nm bytes maxL ret R H k j pc Ls (.int n :: .ref a :: st) Q := by
  obtain ⟨hd, rfl⟩ := hd
  refine Wp.step (fun p e s m args below meth c T L hx hZ hby hown X hH target h => ?_) hr
  obtain ⟨-, cl, A, hs, -⟩ := (hH.at hi).2
  obtain ⟨h1, h2⟩ := in_of hs hn (v := .int x) (by rw [hm]; simpa using hv)
  exact X.iaload hx A.1 (State.isArrayOf_alike hZ.alike A.2.1) A.2.2 h1 h2 (g := mkF m pc Ls (.int n :: .ref a :: st)) rfl rfl (hb hby hd) _ h
theorem wp_caload {i : Nat} {a : Addr} {fl : Bool} {xs : List Int32} {n x : Int32} (m : Nat) (hd : Dc bytes pc .caload 1 pc') (hi : H[i]? = some (a, (fl, .inr (.inl (.char, xs))))) (hn : ¬ n < 0) (hm : n.toNatClampNeg = m) (hv : xs[m]? = some x) (hr : Wp b l Z own nm bytes maxL ret R H k j pc' Ls (.int x :: st) Q) : Wp b l Z own nm bytes maxL ret R H k j pc Ls (.int n :: .ref a :: st) Q := by
  obtain ⟨hd, rfl⟩ := hd
  refine Wp.step (fun p e s m args below meth c T L hx hZ hby hown X hH target h => ?_) hr
  obtain ⟨-, cl, A, hs, -⟩ := (hH.at hi).2
  obtain ⟨h1, h2⟩ := in_of hs hn (v := .int x) (by rw [hm]; simpa using hv)
  exact X.caload hx A.1 (State.isArrayOf_alike hZ.alike A.2.1) A.2.2 h1 h2 (g := mkF m pc Ls (.int n :: .ref a :: st)) rfl rfl (hb hby hd) _ h
theorem wp_saload {i : Nat} {a : Addr} {fl : Bool} {xs : List Int32} {n x : Int32} (m : Nat) (hd : Dc bytes pc .saload 1 pc') (hi : H[i]? = some (a, (fl, .inr (.inl (.short, xs))))) (hn : ¬ n < 0) (hm : n.toNatClampNeg = m) (hv : xs[m]? = some x) (hr : Wp b l Z own nm bytes maxL ret R H k j pc' Ls (.int x :: st) Q) : Wp b l Z own nm bytes maxL ret R H k j pc Ls (.int n :: .ref a :: st) Q := by
  obtain ⟨hd, rfl⟩ := hd
  refine Wp.step (fun p e s m args below meth c T L hx hZ hby hown X hH target h => ?_) hr
  obtain ⟨-, cl, A, hs, -⟩ := (hH.at hi).2
  obtain ⟨h1, h2⟩ := in_of hs hn (v := .int x) (by rw [hm]; simpa using hv)
  exact X.saload hx A.1 (State.isArrayOf_alike hZ.alike A.2.1) A.2.2 h1 h2 (g := mkF m pc Ls (.int n :: .ref a :: st)) rfl rfl (hb hby hd) _ h
theorem wp_baload {i : Nat} {a : Addr} {fl : Bool} {xs : List Int32} {n x : Int32} (m : Nat) (hd : Dc bytes pc .baload 1 pc') (hi : H[i]? = some (a, (fl, .inr (.inl (.byte, xs))))) (hn : ¬ n < 0) (hm : n.toNatClampNeg = m) (hv : xs[m]? = some x) (hr : Wp b l Z own nm bytes maxL ret R H k j pc' Ls (.int x :: st) Q) : Wp b l Z own nm bytes maxL ret R H k j pc Ls (.int n :: .ref a :: st) Q := by
  obtain ⟨hd, rfl⟩ := hd
  refine Wp.step (fun p e s m args below meth c T L hx hZ hby hown X hH target h => ?_) hr
  obtain ⟨-, cl, A, hs, -⟩ := (hH.at hi).2
  obtain ⟨h1, h2⟩ := in_of hs hn (v := .int x) (by rw [hm]; simpa using hv)
  exact X.baloadBytes hx A.1 (State.isArrayOf_alike hZ.alike A.2.1) A.2.2 h1 h2 (g := mkF m pc Ls (.int n :: .ref a :: st)) rfl rfl (hb hby hd) _ h
theorem wp_zaload {i : Nat} {a : Addr} {fl : Bool} {xs : List Int32} {n x : Int32} (m : Nat) (hd : Dc bytes pc .baload 1 pc') (hi : H[i]? = some (a, (fl, .inr (.inl (.boolean, xs))))) (hn : ¬ n < 0) (hm : n.toNatClampNeg = m) (hv : xs[m]? = some x) (hr : Wp b l Z own nm bytes maxL ret R H k j pc' Ls (.int x :: st) Q) : Wp b l Z own nm bytes maxL ret R H k j pc Ls (.int n :: .ref a :: st) Q := by
  obtain ⟨hd, rfl⟩ := hd
  refine Wp.step (fun p e s m args below meth c T L hx hZ hby hown X hH target h => ?_) hr
  obtain ⟨-, cl, A, hs, -⟩ := (hH.at hi).2
  obtain ⟨h1, h2⟩ := in_of hs hn (v := .int x) (by rw [hm]; simpa using hv)
  exact X.baloadBooleans hx A.1 (State.isArrayOf_alike hZ.alike A.2.1) A.2.2 h1 h2 (g := mkF m pc Ls (.int n :: .ref a :: st)) rfl rfl (hb hby hd) _ h
theorem wp_laload {i : Nat} {a : Addr} {xs : List Int64} {n : Int32} {x : Int64} (m : Nat) (hd : Dc bytes pc .laload 1 pc') (hi : H[i]? = some (a, oJ xs)) (hn : ¬ n < 0) (hm : n.toNatClampNeg = m) (hv : xs[m]? = some x) (hr : Wp b l Z own nm bytes maxL ret R H k j pc' Ls (.long x :: st) Q) : Wp b l Z own nm bytes maxL ret R H k j pc Ls (.int n :: .ref a :: st) Q := by
  obtain ⟨hd, rfl⟩ := hd
  refine Wp.step (fun p e s m args below meth c T L hx hZ hby hown X hH target h => ?_) hr
  obtain ⟨Eq, cl, A, hs⟩ := (hH.at hi).2
  obtain ⟨h1, h2⟩ := in_of hs hn (v := .long x) (by rw [hm]; simpa using hv)
  exact X.laload hx A.1 (State.isArrayOf_alike hZ.alike A.2.1) A.2.2 h1 h2 (g := mkF m pc Ls (.int n :: .ref a :: st)) rfl rfl (hb hby hd) _ h
theorem wp_aaload {i : Nat} {a : Addr} {C : String} {ty : FieldType} {xs : List Value} {n : Int32} {x : Value} (m : Nat) (hd : Dc bytes pc .aaload 1 pc') (hi : H[i]? = some (a, oR C ty xs)) (hty : ty.isReference = true) (hn : ¬ n < 0) (hm : n.toNatClampNeg = m) (hv : xs[m]? = some x) (hr : Wp b l Z own nm bytes maxL ret R H k j pc' Ls (x :: st) Q) : Wp b l Z own nm bytes maxL ret R H k j pc Ls (.int n :: .ref a :: st) Q := by
  obtain ⟨hd, rfl⟩ := hd
  refine Wp.step (fun p e s m args below meth c T L hx hZ hby hown X hH target h => ?_) hr
  obtain ⟨-, cl, A, -, hs, -⟩ := (hH.at hi).2
  obtain ⟨h1, h2⟩ := in_of hs hn (hm.symm ▸ hv)
  exact X.aaload hx A.1 (State.isArrayOf_alike hZ.alike A.2.1) hty A.2.2 h1 h2 (g := mkF m pc Ls (.int n :: .ref a :: st)) rfl rfl (hb hby hd) _ h
theorem wp_lengthI {i : Nat} {a : Addr} {fl : Bool} {ty : FieldType} {xs : List Int32} (n : Int32) (hd : Dc bytes pc .arraylength 1 pc') (hi : H[i]? = some (a, (fl, .inr (.inl (ty, xs))))) (hn : xs.length.toInt32 = n) (hr : Wp b l Z own nm bytes maxL ret R H k j pc' Ls (.int n :: st) Q) : Wp b l Z own nm bytes maxL ret R H k j pc Ls (.ref a :: st) Q := by
  obtain ⟨hd, rfl⟩ := hd
  refine Wp.step (fun p e s m args below meth c T L hx hZ hby hown X hH target h => ?_) hr
  obtain ⟨-, cl, A, hs, -⟩ := (hH.at hi).2
  refine X.arraylength hx A.1 (State.isArrayOf_alike hZ.alike A.2.1) (g := mkF m pc Ls (.ref a :: st)) rfl rfl (hb hby hd) _ ?_
  have e1 : cl.slots.size.toInt32 = n := by rw [hs]; simpa using hn
  rw [e1]; exact h
theorem wp_lengthJ {i : Nat} {a : Addr} {xs : List Int64} (n : Int32) (hd : Dc bytes pc .arraylength 1 pc') (hi : H[i]? = some (a, oJ xs)) (hn : xs.length.toInt32 = n) (hr : Wp b l Z own nm bytes maxL ret R H k j pc' Ls (.int n :: st) Q) : Wp b l Z own nm bytes maxL ret R H k j pc Ls (.ref a :: st) Q := by
  obtain ⟨hd, rfl⟩ := hd
  refine Wp.step (fun p e s m args below meth c T L hx hZ hby hown X hH target h => ?_) hr
  obtain ⟨-, cl, A, hs⟩ := (hH.at hi).2
  refine X.arraylength hx A.1 (State.isArrayOf_alike hZ.alike A.2.1) (g := mkF m pc Ls (.ref a :: st)) rfl rfl (hb hby hd) _ ?_
  have e1 : cl.slots.size.toInt32 = n := by rw [hs]; simpa using hn
  rw [e1]; exact h
theorem wp_lengthR {i : Nat} {a : Addr} {C : String} {ty : FieldType} {xs : List Value} (n : Int32) (hd : Dc bytes pc .arraylength 1 pc') (hi : H[i]? = some (a, oR C ty xs)) (hn : xs.length.toInt32 = n) (hr : Wp b l Z own nm bytes maxL ret R H k j pc' Ls (.int n :: st) Q) : Wp b l Z own nm bytes maxL ret R H k j pc Ls (.ref a :: st) Q := by
  obtain ⟨hd, rfl⟩ := hd
  refine Wp.step (fun p e s m args below meth c T L hx hZ hby hown X hH target h => ?_) hr
  obtain ⟨-, cl, A, -, hs, -⟩ := (hH.at hi).2
  refine X.arraylength hx A.1 (State.isArrayOf_alike hZ.alike A.2.1) (g := mkF m pc Ls (.ref a :: st)) rfl rfl (hb hby hd) _ ?_
  have e1 : cl.slots.size.toInt32 = n := by rw [hs]; simpa using hn
  rw [e1]; exact h
theorem wp_iastore {i : Nat} {a : Addr} {xs : List Int32} {n x : Int32} (m : Nat) (hd : Dc bytes pc .iastore 1 pc') (hi : H[i]? = some (a, oA .int xs)) (hn : ¬ n < 0) (hm : n.toNatClampNeg = m) (hin : m < xs.length) (hr : Wp b l Z own nm bytes maxL ret R (H.set i (a, oA .int (xs.set m x))) k j pc' Ls st Q) : Wp b l Z own nm bytes maxL ret R H k j pc Ls (.int x :: .int n :: .ref a :: st) Q := by
  obtain ⟨hd, rfl⟩ := hd
  refine Wp.stepH fun p e s mm args below meth c T L hx hZ hby hml hown hnm hret X N hH => ?_
  subst hm
  obtain ⟨Eq, cl, A, hs, G⟩ := (hH.at hi).2
  obtain ⟨h1, -⟩ := in_of hs hn (v := .int xs[n.toNatClampNeg]) (by simp [hin])
  obtain ⟨T', h', X', e', W', stp⟩ := stI X hx hZ rfl A h1 (g := mkF mm pc Ls (.int x :: .int n :: .ref a :: st)) rfl rfl (hb hby hd)
  subst e'
  exact ⟨T', _, k, j, _, _, Ls, st, X', by rw [W'.size]; exact Nat.le_refl _, Fr.snoc X' N ((hH.at hi).1 rfl), hH.set hi W' (o' := .inr (.inl (_, xs.set n.toNatClampNeg _))) ⟨Eq.imp id (·.wr W'), _, A.same W', by rw [setSlot_list hs, List.map_set], fun y hy => (List.mem_or_eq_of_mem_set hy).elim (G y) fun q => by rw [q]; exact rfl⟩, hr, stp⟩
theorem wp_castore {i : Nat} {a : Addr} {xs : List Int32} {n x : Int32} (m : Nat) (hd : Dc bytes pc .castore 1 pc') (hi : H[i]? = some (a, oA .char xs)) (hn : ¬ n < 0) (hm : n.toNatClampNeg = m) (hin : m < xs.length) (hr : Wp b l Z own nm bytes maxL ret R (H.set i (a, oA .char (xs.set m (nar .char x)))) k j pc' Ls st Q) : Wp b l Z own nm bytes maxL ret R H k j pc Ls (.int x :: .int n :: .ref a :: st) Q := by
  obtain ⟨hd, rfl⟩ := hd
  refine Wp.stepH fun p e s mm args below meth c T L hx hZ hby hml hown hnm hret X N hH => ?_
  subst hm
  obtain ⟨Eq, cl, A, hs, G⟩ := (hH.at hi).2
  obtain ⟨h1, -⟩ := in_of hs hn (v := .int xs[n.toNatClampNeg]) (by simp [hin])
  obtain ⟨T', h', X', e', W', stp⟩ := stC X hx hZ rfl A h1 (g := mkF mm pc Ls (.int x :: .int n :: .ref a :: st)) rfl rfl (hb hby hd)
  subst e'
  exact ⟨T', _, k, j, _, _, Ls, st, X', by rw [W'.size]; exact Nat.le_refl _, Fr.snoc X' N ((hH.at hi).1 rfl), hH.set hi W' (o' := .inr (.inl (_, xs.set n.toNatClampNeg _))) ⟨Eq.imp id (·.wr W'), _, A.same W', by rw [setSlot_list hs, List.map_set], fun y hy => (List.mem_or_eq_of_mem_set hy).elim (G y) fun q => by rw [q]; exact fits_nar_char x⟩, hr, stp⟩
theorem wp_sastore {i : Nat} {a : Addr} {xs : List Int32} {n x : Int32} (m : Nat) (hd : Dc bytes pc .sastore 1 pc') (hi : H[i]? = some (a, oA .short xs)) (hn : ¬ n < 0) (hm : n.toNatClampNeg = m) (hin : m < xs.length) (hr : Wp b l Z own nm bytes maxL ret R (H.set i (a, oA .short (xs.set m (nar .short x)))) k j pc' Ls st Q) : Wp b l Z own nm bytes maxL ret R H k j pc Ls (.int x :: .int n :: .ref a :: st) Q := by
  obtain ⟨hd, rfl⟩ := hd
  refine Wp.stepH fun p e s mm args below meth c T L hx hZ hby hml hown hnm hret X N hH => ?_
  subst hm
  obtain ⟨Eq, cl, A, hs, G⟩ := (hH.at hi).2
  obtain ⟨h1, -⟩ := in_of hs hn (v := .int xs[n.toNatClampNeg]) (by simp [hin])
  obtain ⟨T', h', X', e', W', stp⟩ := stS X hx hZ rfl A h1 (g := mkF mm pc Ls (.int x :: .int n :: .ref a :: st)) rfl rfl (hb hby hd)
  subst e'
  exact ⟨T', _, k, j, _, _, Ls, st, X', by rw [W'.size]; exact Nat.le_refl _, Fr.snoc X' N ((hH.at hi).1 rfl), hH.set hi W' (o' := .inr (.inl (_, xs.set n.toNatClampNeg _))) ⟨Eq.imp id (·.wr W'), _, A.same W', by rw [setSlot_list hs, List.map_set], fun y hy => (List.mem_or_eq_of_mem_set hy).elim (G y) fun q => by rw [q]; exact fits_nar_short x⟩, hr, stp⟩
theorem wp_bastore {i : Nat} {a : Addr} {xs : List Int32} {n x : Int32} (m : Nat) (hd : Dc bytes pc .bastore 1 pc') (hi : H[i]? = some (a, oA .byte xs)) (hn : ¬ n < 0) (hm : n.toNatClampNeg = m) (hin : m < xs.length) (hr : Wp b l Z own nm bytes maxL ret R (H.set i (a, oA .byte (xs.set m (nar .byte x)))) k j pc' Ls st Q) : Wp b l Z own nm bytes maxL ret R H k j pc Ls (.int x :: .int n :: .ref a :: st) Q := by
  obtain ⟨hd, rfl⟩ := hd
  refine Wp.stepH fun p e s mm args below meth c T L hx hZ hby hml hown hnm hret X N hH => ?_
  subst hm
  obtain ⟨Eq, cl, A, hs, G⟩ := (hH.at hi).2
  obtain ⟨h1, -⟩ := in_of hs hn (v := .int xs[n.toNatClampNeg]) (by simp [hin])
  obtain ⟨T', h', X', e', W', stp⟩ := stB X hx hZ rfl A h1 (g := mkF mm pc Ls (.int x :: .int n :: .ref a :: st)) rfl rfl (hb hby hd)
  subst e'
  exact ⟨T', _, k, j, _, _, Ls, st, X', by rw [W'.size]; exact Nat.le_refl _, Fr.snoc X' N ((hH.at hi).1 rfl), hH.set hi W' (o' := .inr (.inl (_, xs.set n.toNatClampNeg _))) ⟨Eq.imp id (·.wr W'), _, A.same W', by rw [setSlot_list hs, List.map_set], fun y hy => (List.mem_or_eq_of_mem_set hy).elim (G y) fun q => by rw [q]; exact fits_nar_byte x⟩, hr, stp⟩
theorem wp_zastore {i : Nat} {a : Addr} {xs : List Int32} {n x : Int32} (m : Nat) (hd : Dc bytes pc .bastore 1 pc') (hi : H[i]? = some (a, oA .boolean xs)) (hn : ¬ n < 0) (hm : n.toNatClampNeg = m) (hin : m < xs.length) (hr : Wp b l Z own nm bytes maxL ret R (H.set i (a, oA .boolean (xs.set m (nar .boolean x)))) k j pc' Ls st Q) : Wp b l Z own nm bytes maxL ret R H k j pc Ls (.int x :: .int n :: .ref a :: st) Q := by
  obtain ⟨hd, rfl⟩ := hd
  refine Wp.stepH fun p e s mm args below meth c T L hx hZ hby hml hown hnm hret X N hH => ?_
  subst hm
  obtain ⟨Eq, cl, A, hs, G⟩ := (hH.at hi).2
  obtain ⟨h1, -⟩ := in_of hs hn (v := .int xs[n.toNatClampNeg]) (by simp [hin])
  obtain ⟨T', h', X', e', W', stp⟩ := stZ X hx hZ rfl A h1 (g := mkF mm pc Ls (.int x :: .int n :: .ref a :: st)) rfl rfl (hb hby hd)
  subst e'
  exact ⟨T', _, k, j, _, _, Ls, st, X', by rw [W'.size]; exact Nat.le_refl _, Fr.snoc X' N ((hH.at hi).1 rfl), hH.set hi W' (o' := .inr (.inl (_, xs.set n.toNatClampNeg _))) ⟨Eq.imp id (·.wr W'), _, A.same W', by rw [setSlot_list hs, List.map_set], fun y hy => (List.mem_or_eq_of_mem_set hy).elim (G y) fun q => by rw [q]; exact fits_nar_bool x⟩, hr, stp⟩
theorem wp_lastore {i : Nat} {a : Addr} {xs : List Int64} {n : Int32} {x : Int64} (m : Nat) (hd : Dc bytes pc .lastore 1 pc') (hi : H[i]? = some (a, oJ xs)) (hn : ¬ n < 0) (hm : n.toNatClampNeg = m) (hin : m < xs.length) (hr : Wp b l Z own nm bytes maxL ret R (H.set i (a, oJ (xs.set m x))) k j pc' Ls st Q) : Wp b l Z own nm bytes maxL ret R H k j pc Ls (.long x :: .int n :: .ref a :: st) Q := by
  obtain ⟨hd, rfl⟩ := hd
  refine Wp.stepH fun p e s mm args below meth c T L hx hZ hby hml hown hnm hret X N hH => ?_
  subst hm
  obtain ⟨Eq, cl, A, hs⟩ := (hH.at hi).2
  obtain ⟨h1, -⟩ := in_of hs hn (v := .long xs[n.toNatClampNeg]) (by simp [hin])
  obtain ⟨T', h', X', e', W', stp⟩ := stJ X hx hZ rfl A h1 (g := mkF mm pc Ls (.long x :: .int n :: .ref a :: st)) rfl rfl (hb hby hd)
  subst e'
  exact ⟨T', _, k, j, _, _, Ls, st, X', by rw [W'.size]; exact Nat.le_refl _, Fr.snoc X' N ((hH.at hi).1 rfl), hH.set hi W' (o' := .inr (.inr (.inl (xs.set n.toNatClampNeg x)))) ⟨Eq.wr W', _, A.same W', by rw [setSlot_list hs, List.map_set]⟩, hr, stp⟩
/-- a body's contract: handed these arguments among these new objects it returns and Q holds -/
def Met (l : Launch) (Z : State) (y : MethodName) (bytes : ByteArray) (maxL : Nat) (ret : Option FieldType) (rm : Room) (as' : List Value) (H : OH) (Q : Option Value → OH → Prop) : Prop :=
  ∀ (ws : List Jvm.Cond) (h : Heap), Hp Z h H → MetFree l y (head1 (Jvm.Cond.code y bytes maxL ret :: ws) rm) (fun a U => a = as'.toArray ∧ Z.Warmed39 U.vm ∧ U.heap = h) (fun _ _ _ _ _ => True)
    (fun _ U o U' => ∃ v L, o = .returned v ∧ (Fr Z.heap.size L ∧ h.size ≤ U'.heap.size ∧ ∃ H', Hp Z U'.heap H' ∧ Q v H') ∧ FrameEnd U o U' L rm.cells rm.slots)
theorem Met.of_wp {y : MethodName} {rm : Room} {as' : List Value} (hx : plainFor y = true) (hef : ∀ m, entryFrame m as'.toArray maxL = mkF m 0 Ls []) (hw : Wp none l Z y.cls y.name bytes maxL ret rm H 0 0 0 Ls [] Q) : Met l Z y bytes maxL ret rm as' H Q := by
  intro ws h hH
  refine MetFree.of_bodySF hx hisR ?_
  intro p e s m args below meth c s₁ Bd hml0 hP hK
  obtain ⟨rfl, hZ, hh⟩ := hP
  have X0 : Stand p l e rm s m as'.toArray below meth c s₁ [] 0 0 := Stand.of_body Bd
  have e0 : s₁.heap = h := by rw [← hh, Bd.state]; rfl
  obtain ⟨T', v, L', k', j', vm1, k1, H', ⟨hS, hk1, hvm⟩, X', ⟨hc, hj, hsz⟩, N', hH', hv, hQ, stp⟩ := hw p e s s.vm 0 m as'.toArray below meth c s₁ [] Bd.exec hZ ((State.WarmedH.refl s).since 0) (Nat.zero_le _) Bd.bytes hml0 (findClass_of_methodNamed Bd.named) (name_of_methodNamed Bd.named Bd.method).1 Bd.returns X0 (Fr.nil _) (by rw [e0]; exact hH) (fun _ q => nomatch q)
  obtain rfl := hvm rfl
  have X'' : Stand p l e rm s m as'.toArray below meth c T' L' k' j' := X'
  obtain ⟨fs, hr, hrun, hended, hW, hsame⟩ := X''.leave (v := v) (fun h => hv (Bd.returns.symm.trans h))
  refine ⟨_, _, castTop (hef m) (stp fs hr), hrun, hended, v, L', rfl, ⟨N', ?_, H', hH', hQ⟩, ⟨_, rfl⟩, hW, hsame.mono hc hj⟩
  rw [e0] at hsz; exact hsz
/-- the same for a body that may intern (a String constant loaded cold) -/
theorem MetW.of_wp {y : MethodName} {rm : Room} {as' : List Value} (hx : plainFor y = true) (hef : ∀ m, entryFrame m as'.toArray maxL = mkF m 0 Ls []) (hw : Wp b l Z y.cls y.name bytes maxL ret rm H 0 0 0 Ls [] Q) (ws : List Jvm.Cond) (h : Heap) (hH : Hp Z h H) :
    MetFree l y (head1 (Jvm.Cond.code y bytes maxL ret :: ws) rm) (fun a U => a = as'.toArray ∧ Z.Warmed39 U.vm ∧ U.heap = h ∧ MdOk b Z U U.vm) (fun _ _ _ _ _ => True)
      (fun _ U o U' => ∃ v L, o = .returned v ∧ (Fr Z.heap.size L ∧ ∃ H', Hp Z U'.heap H' ∧ Q v H') ∧ ReturnedEndW U o U' L rm.cells rm.slots) := by
  refine MetFree.of_bodySF hx hisR ?_
  intro p e s m args below meth c s₁ Bd hml0 hP hK
  obtain ⟨rfl, hZ, hh, hB⟩ := hP
  have X0 : Stand p l e rm s m as'.toArray below meth c s₁ [] 0 0 := Stand.of_body Bd
  have e0 : s₁.heap = h := by rw [← hh, Bd.state]; rfl
  obtain ⟨T', v, L', k', j', vm1, k1, H', ⟨hS, hk1, -⟩, X', ⟨hc, hj, hsz⟩, N', hH', hv, hQ, stp⟩ := hw p e s s.vm 0 m as'.toArray below meth c s₁ [] Bd.exec hZ ((State.WarmedH.refl s).since 0) (Nat.zero_le _) Bd.bytes hml0 (findClass_of_methodNamed Bd.named) (name_of_methodNamed Bd.named Bd.method).1 Bd.returns X0 (Fr.nil _) (by rw [e0]; exact hH) hB
  obtain ⟨fs, hr, hrun, hended, q1, q2, q3, q4⟩ := X'.leaveW hS hk1 (v := v) (fun h => hv (Bd.returns.symm.trans h))
  exact ⟨_, _, castTop (hef m) (stp fs hr), hrun, hended, v, L', rfl, ⟨N', H', hH', hQ⟩, q1, q2, q3, q4.mono hc hj⟩
theorem Met.mono {y : MethodName} {rm : Room} {as' : List Value} {Q' : Option Value → OH → Prop} (M : Met l Z y bytes maxL ret rm as' H Q') (hq : ∀ v H', Q' v H' → Q v H') : Met l Z y bytes maxL ret rm as' H Q := fun ws h hH p e ha hc hk s m args below hf happ hP hK => by
  obtain ⟨n, o, h1, h2, h3, v, L, rfl, ⟨q1, q2, H', q3, q4⟩, h5⟩ := M ws h hH p e ha hc hk s m args below hf happ hP hK
  exact ⟨n, _, h1, h2, h3, v, L, rfl, ⟨q1, q2, H', q3, hq _ _ q4⟩, h5⟩
theorem wp_callS {y : MethodName} {bytes' : ByteArray} {maxL' : Nat} {ret' : Option FieldType} {rm : Room} {rest : List Value} {Q' : Option Value → OH → Prop} {idx : Nat} {ps : List FieldType} {rt : Option FieldType} {as' : List Value} (M : Met l Z y bytes' maxL' ret' rm as' H Q') (hd : Dc bytes pc (.invokestatic idx) 3 pc') (w1 : (Cond.methodLink own idx y).before a0 Z = true) (w2 : (Cond.static y).before a0 Z = true) (w3 : (Cond.initialized y.cls).before a0 Z = true) (w4 : (Cond.code y bytes' maxL' ret').before a0 Z = true) (hy : y.cls ≠ "java/lang/invoke/MethodHandle" ∧ y.cls ≠ "java/lang/invoke/VarHandle") (hpd : parseMethodDescriptor y.desc = some ⟨ps, rt⟩) (hlen : as'.length = ps.length) (hst : st = as'.reverse ++ rest) (hsz : Ls.size = maxL) (hf : rm.frames + 1 ≤ R.frames) (hl : (rest.map fun v => v.category).sum + (maxL' + 11) + rm.locals ≤ R.locals) (hc : k + rm.cells ≤ R.cells) (hj : j + rm.slots ≤ R.slots) (hr : ∀ v H', Q' v H' → Wp b l Z own nm bytes maxL ret R H' (k + rm.cells) (j + rm.slots) pc' Ls (v.toList ++ rest) Q) : Wp b l Z own nm bytes maxL ret R H k j pc Ls st Q := by
  obtain ⟨hd, rfl⟩ := hd
  refine Wp.stepH fun p e s m args below meth c T L hx hZ hby hml hown hnm hret X N hH => ?_
  obtain ⟨v, _, ⟨T', L', k', n'⟩, -, X', ⟨Lc, ⟨N', hsz', H', hH', hQ⟩, l1, y1, z1⟩, stp⟩ := Jvm.LawKit.callS X hx (y := y) hown (mvT hZ w1) (mvT hZ w2) (mvT hZ w3) (mvT hZ w4) hy (backOf (W := (rest.map fun v => v.category).sum) (Q := fun v h L => Fr Z.heap.size L ∧ T.heap.size ≤ h.size ∧ ∃ H', Hp Z h H' ∧ Q' v H') (M [] T.heap hH) hZ w4 w3 hf hl) (g := mkF m pc Ls st) rfl (by rw [hml]; exact hsz) (argsL := as') (rest := rest) (lenOf hpd hlen) hst (by show 2 * 0 + _ ≤ _; omega) (hb hby hd) (fun _ _ => ⟨rfl, rfl, hc, hj⟩)
  dsimp only [Pt.U, Pt.locs, Pt.cells, Pt.slots] at X' l1 y1 z1 stp hH' hsz'
  subst l1 y1 z1
  exact ⟨T', _, _, _, H', _, Ls, v.toList ++ rest, X', hsz', N.app N', hH', hr v H' hQ, stp⟩
theorem wp_init {y : MethodName} {bytes' : ByteArray} {maxL' : Nat} {rm : Room} {rest : List Value} {Q' : Option Value → OH → Prop} {idx : Nat} {ps : List FieldType} {rt : Option FieldType} {a : Addr} {as' : List Value} (M : Met l Z y bytes' maxL' none rm (.ref a :: as') H Q') (hd : Dc bytes pc (.invokespecial idx) 3 pc') (hin : y.name = "<init>") (w1 : (Cond.methodLink own idx y).before a0 Z = true) (w2 : (Cond.instanceMethod y).before a0 Z = true) (w3 : (Cond.initialized y.cls).before a0 Z = true) (w4 : (Cond.code y bytes' maxL' none).before a0 Z = true) (hy : y.cls ≠ "java/lang/invoke/MethodHandle" ∧ y.cls ≠ "java/lang/invoke/VarHandle") (hpd : parseMethodDescriptor y.desc = some ⟨ps, rt⟩) (hlen : as'.length = ps.length) (hst : st = as'.reverse ++ .ref a :: rest) (hsz : Ls.size = maxL) (hf : rm.frames + 1 ≤ R.frames) (hl : (rest.map fun v => v.category).sum + (maxL' + 11) + rm.locals ≤ R.locals) (hc : k + rm.cells ≤ R.cells) (hj : j + rm.slots ≤ R.slots) (hr : ∀ v H', Q' v H' → Wp b l Z own nm bytes maxL ret R H' (k + rm.cells) (j + rm.slots) pc' Ls (v.toList ++ rest) Q) : Wp b l Z own nm bytes maxL ret R H k j pc Ls st Q := by
  obtain ⟨hd, rfl⟩ := hd
  refine Wp.stepH fun p e s m args below meth c T L hx hZ hby hml hown hnm hret X N hH => ?_
  obtain ⟨v, _, ⟨T', L', k', n'⟩, -, X', ⟨Lc, ⟨N', hsz', H', hH', hQ⟩, l1, y1, z1⟩, stp⟩ := X.specialBack hx (y := y) hin hown (mvT hZ w1) (mvT hZ w2) (mvT hZ w4) hy (backOf (W := (rest.map fun v => v.category).sum) (Q := fun v h L => Fr Z.heap.size L ∧ T.heap.size ≤ h.size ∧ ∃ H', Hp Z h H' ∧ Q' v H') (M [] T.heap hH) hZ w4 w3 hf hl) (g := mkF m pc Ls st) rfl (by rw [hml]; exact hsz) (Steps.refl _) (a := a) (argsL := as') (rest := rest) (lenOf hpd hlen) hst (by show 2 * 0 + _ ≤ _; omega) (hb hby hd) (fun _ _ => ⟨rfl, rfl, hc, hj⟩)
  dsimp only [Pt.U, Pt.locs, Pt.cells, Pt.slots] at X' l1 y1 z1 stp hH' hsz'
  subst l1 y1 z1
  exact ⟨T', _, _, _, H', _, Ls, v.toList ++ rest, X', hsz', N.app N', hH', hr v H' hQ, fun _ q => stp.trans q⟩
theorem wp_virtual {y : MethodName} {bytes' : ByteArray} {maxL' : Nat} {ret' : Option FieldType} {rm : Room} {rest : List Value} {Q' : Option Value → OH → Prop} {idx : Nat} {ps : List FieldType} {rt : Option FieldType} {x : MethodName} {C : String} {a : Addr} {as' : List Value} (M : Met l Z y bytes' maxL' ret' rm (.ref a :: as') H Q') (E : ExaAt Z H a C) (hd : Dc bytes pc (.invokevirtual idx) 3 pc') (w1 : (Cond.methodLink own idx x).before a0 Z = true) (w2 : (Cond.declares x).before a0 Z = true) (wn : (Cond.selects x.cls x x).before a0 Z = true) (ws : (Cond.selects C x y).before a0 Z = true) (wi : (Cond.instanceMethod y).before a0 Z = true) (w3 : (Cond.initialized y.cls).before a0 Z = true) (w4 : (Cond.code y bytes' maxL' ret').before a0 Z = true) (hy : x.cls ≠ "java/lang/invoke/MethodHandle" ∧ x.cls ≠ "java/lang/invoke/VarHandle") (hpd : parseMethodDescriptor x.desc = some ⟨ps, rt⟩) (hlen : as'.length = ps.length) (hst : st = as'.reverse ++ .ref a :: rest) (hsz : Ls.size = maxL) (hf : rm.frames + 1 ≤ R.frames) (hl : (rest.map fun v => v.category).sum + (maxL' + 11) + rm.locals ≤ R.locals) (hc : k + rm.cells ≤ R.cells) (hj : j + rm.slots ≤ R.slots) (hr : ∀ v H', Q' v H' → Wp b l Z own nm bytes maxL ret R H' (k + rm.cells) (j + rm.slots) pc' Ls (v.toList ++ rest) Q) : Wp b l Z own nm bytes maxL ret R H k j pc Ls st Q := by
  obtain ⟨hd, rfl⟩ := hd
  refine Wp.stepH fun p e s m args below meth c T L hx hZ hby hml hown hnm hret X N hH => ?_
  obtain ⟨cq, kq, q1, q2, q3⟩ := isOf hZ rfl (E _ hH)
  obtain ⟨v, _, ⟨T', L', k', n'⟩, -, X', ⟨Lc, ⟨N', hsz', H', hH', hQ⟩, l1, y1, z1⟩, stp⟩ := X.virtualBack hx (y := x) (z := y) hown (mvT hZ w1) (mvT hZ w2) (notFace_of_selects (args := #[]) (mvT hZ wn)) (mvT hZ ws) (mvT hZ wi) hy (backOf (W := (rest.map fun v => v.category).sum) (Q := fun v h L => Fr Z.heap.size L ∧ T.heap.size ≤ h.size ∧ ∃ H', Hp Z h H' ∧ Q' v H') (M [] T.heap hH) hZ w4 w3 hf hl) q1 q3 (g := mkF m pc Ls st) rfl (by rw [hml]; exact hsz) (Steps.refl _) (argsL := as') (rest := rest) (lenOf hpd hlen) hst (by show 2 * 0 + _ ≤ _; omega) (hb hby hd) (fun _ _ => ⟨rfl, rfl, hc, hj⟩)
  dsimp only [Pt.U, Pt.locs, Pt.cells, Pt.slots] at X' l1 y1 z1 stp hH' hsz'
  subst l1 y1 z1
  exact ⟨T', _, _, _, H', _, Ls, v.toList ++ rest, X', hsz', N.app N', hH', hr v H' hQ, fun _ q => stp.trans q⟩
theorem xs_pop2L {tb : Tables} [Ours tb] {e : Env} {below : List Frame} {T target : State} {m : MethodId} {c : Code} {g : JFrame} (h : At T m c below) (hx : tb.exec = Jvm.exec) (hg : g.method = m) {x : Int64} {rest : List Value} (hd : decode c.code g.pc = .ok (.pop2, 1)) (hs : g.stack = .long x :: rest)
    (hr : Steps tb e below (T.setTop { g with pc := g.pc + 1, stack := rest }) target) : Steps tb e below (T.setTop g) target := by
  subst hg
  jvm_step h [h.top, hx, hd, hs, Value.category]
  exact hr
theorem xs_dup_x2 {tb : Tables} [Ours tb] {e : Env} {below : List Frame} {T target : State} {m : MethodId} {c : Code} {g : JFrame} (h : At T m c below) (hx : tb.exec = Jvm.exec) (hg : g.method = m) {x y z : Value} {rest : List Value} (hd : decode c.code g.pc = .ok (.dup_x2, 1)) (hs : g.stack = x :: y :: z :: rest) (hc1 : x.category = 1) (hc2 : y.category = 1) (hc3 : z.category = 1)
    (hr : Steps tb e below (T.setTop { g with pc := g.pc + 1, stack := x :: y :: z :: x :: rest }) target) : Steps tb e below (T.setTop g) target := by
  subst hg
  jvm_step h [h.top, hx, hd, hs, hc1, hc2, hc3]
  exact hr
theorem wp_pop2L {x : Int64} (hd : Dc bytes pc (.pop2) 1 pc')  (hr : Wp b l Z own nm bytes maxL ret R H k j pc' Ls st Q) : Wp b l Z own nm bytes maxL ret R H k j pc Ls (.long x :: st) Q := by
  obtain ⟨hd, rfl⟩ := hd
  exact Wp.step (fun p e s m args below meth c T L hx hZ hby hown X hH target ht => xs_pop2L X.here hx rfl (hb hby hd) rfl ht) hr
theorem wp_dup_x2 {x y z : Value} (hd : Dc bytes pc (.dup_x2) 1 pc') (hc1 : x.category = 1) (hc2 : y.category = 1) (hc3 : z.category = 1) (hr : Wp b l Z own nm bytes maxL ret R H k j pc' Ls (x :: y :: z :: x :: st) Q) : Wp b l Z own nm bytes maxL ret R H k j pc Ls (x :: y :: z :: st) Q := by
  obtain ⟨hd, rfl⟩ := hd
  exact Wp.step (fun p e s m args below meth c T L hx hZ hby hown X hH target ht => xs_dup_x2 X.here hx rfl (hb hby hd) rfl hc1 hc2 hc3 ht) hr
theorem wp_private {y : MethodName} {bytes' : ByteArray} {maxL' : Nat} {ret' : Option FieldType} {rm : Room} {rest : List Value} {Q' : Option Value → OH → Prop} {idx : Nat} {ps : List FieldType} {rt : Option FieldType} {a : Addr} {C : String} {kk : Nat} {as' : List Value} (M : Met l Z y bytes' maxL' ret' rm (.ref a :: as') H Q') (E : ExaAt Z H a C) (hd : Dc bytes pc (.invokevirtual idx) 3 pc') (w1 : (Cond.methodLink own idx y).before a0 Z = true) (wi : (Cond.instanceMethod y).before a0 Z = true) (wn : (Cond.instantiable y.cls kk).before a0 Z = true) (wp : (Cond.privateMethod y).before a0 Z = true) (w3 : (Cond.initialized y.cls).before a0 Z = true) (w4 : (Cond.code y bytes' maxL' ret').before a0 Z = true) (hy : y.cls ≠ "java/lang/invoke/MethodHandle" ∧ y.cls ≠ "java/lang/invoke/VarHandle") (hpd : parseMethodDescriptor y.desc = some ⟨ps, rt⟩) (hlen : as'.length = ps.length) (hst : st = as'.reverse ++ .ref a :: rest) (hsz : Ls.size = maxL) (hf : rm.frames + 1 ≤ R.frames) (hl : (rest.map fun v => v.category).sum + (maxL' + 11) + rm.locals ≤ R.locals) (hc : k + rm.cells ≤ R.cells) (hj : j + rm.slots ≤ R.slots) (hr : ∀ v H', Q' v H' → Wp b l Z own nm bytes maxL ret R H' (k + rm.cells) (j + rm.slots) pc' Ls (v.toList ++ rest) Q) : Wp b l Z own nm bytes maxL ret R H k j pc Ls st Q := by
  obtain ⟨hd, rfl⟩ := hd
  refine Wp.stepH fun p e s m args below meth c T L hx hZ hby hml hown hnm hret X N hH => ?_
  obtain ⟨cl, q1, q2⟩ := (E _ hH).cell
  obtain ⟨mk, mt, n1, n2, n3, n4⟩ := Cond.instanceMethod_spec (mvT (args := args) hZ wi)
  obtain ⟨mt', cM, n2', -, -, -, -, -, -, n5⟩ := Cond.code_spec n1 (mvT (args := args) hZ w4)
  cases n2.symm.trans n2'
  obtain ⟨c2, k2, i1, i2, -, i4, -⟩ := Cond.instantiable_spec (mvT (args := args) hZ wn)
  cases (findClass_of_methodNamed n1).symm.trans i1
  have i5 : k2.isInterface = false := by cases q : k2.isInterface with | false => rfl | true => rw [q] at i4; cases i4
  have hsel : selectMethod e.platform s.vm cl.cls mk = .method mk := selectMethod_private n2 (Cond.privateMethod_at (mvP (args := args) hZ wp) mk mt n1 n2)
  obtain ⟨vm1, X1, st1⟩ := X.invokevirtual hx hown (mvT hZ w1) n1 n2 n3 i2 i5 hy (a := a) (cell := cl) q1 q2 hsel n2 n4 i2 i5 (g := mkF m pc Ls st) rfl (argsL := as') (rest := rest) (lenOf hpd hlen _ n5) hst (hb hby hd)
  obtain ⟨v, ⟨T', L', k', n'⟩, X', ⟨Lc, ⟨N', hsz', H', hH', hQ⟩, l1, y1, z1⟩, st2⟩ := backOf (p := p) (e := e) (below := below) (args := args) (len := 3) (W := (rest.map fun v => v.category).sum) (Q := fun v h L => Fr Z.heap.size L ∧ T.heap.size ≤ h.size ∧ ∃ H', Hp Z h H' ∧ Q' v H') (M [] T.heap hH) hZ w4 w3 hf hl m meth c ⟨T.setVm vm1, L, k, j⟩ { mkF m pc Ls st with stack := rest } (.invokevirtual idx) mk (.ref a :: as').toArray X1 rfl (by show Ls.size = _; rw [hml]; exact hsz) (hb hby hd) (by show 2 * 0 + (rest.map fun v => v.category).sum ≤ _; omega) (X1.named n1) ⟨rfl, rfl, hc, hj⟩
  dsimp only [Pt.U, Pt.locs, Pt.cells, Pt.slots] at X' l1 y1 z1 st2 hH' hsz'
  subst l1 y1 z1
  exact ⟨T', _, _, _, H', _, Ls, v.toList ++ rest, X', hsz', N.app N', hH', hr v H' hQ, fun t q => st1 _ fun acts => by rw [doInvoke_state]; exact st2.trans q⟩
theorem wp_interface {y : MethodName} {bytes' : ByteArray} {maxL' : Nat} {ret' : Option FieldType} {rm : Room} {rest : List Value} {Q' : Option Value → OH → Prop} {idx : Nat} {ps : List FieldType} {rt : Option FieldType} {x : MethodName} {C : String} {cnt : Nat} {a : Addr} {as' : List Value} (M : Met l Z y bytes' maxL' ret' rm (.ref a :: as') H Q') (E : ExaAt Z H a C) (hd : Dc bytes pc (.invokeinterface idx cnt) 5 pc') (w1 : (Cond.methodLink own idx x).before a0 Z = true) (w2 : (Cond.declares x).before a0 Z = true) (wf : (Cond.interfaceMethod x.cls x.cls x.name x.desc).before a0 Z = true) (hfa : ((Cond.interfaceMethod x.cls x.cls x.name x.desc).onTables && (Cond.interfaceMethod x.cls x.cls x.name x.desc).keepsFace) = true) (ws : (Cond.selects C x y).before a0 Z = true) (wi : (Cond.instanceMethod y).before a0 Z = true) (wpu : (Cond.publicMethod y).before a0 Z = true) (wu : (Cond.unhidden C x.name x.desc).before a0 Z = true) (wc : (Cond.castable C x.cls).before a0 Z = true) (w3 : (Cond.initialized y.cls).before a0 Z = true) (w4 : (Cond.code y bytes' maxL' ret').before a0 Z = true) (hy : x.cls ≠ "java/lang/invoke/MethodHandle" ∧ x.cls ≠ "java/lang/invoke/VarHandle") (hpd : parseMethodDescriptor x.desc = some ⟨ps, rt⟩) (hlen : as'.length = ps.length) (hst : st = as'.reverse ++ .ref a :: rest) (hsz : Ls.size = maxL) (hf : rm.frames + 1 ≤ R.frames) (hl : (rest.map fun v => v.category).sum + (maxL' + 11) + rm.locals ≤ R.locals) (hc : k + rm.cells ≤ R.cells) (hj : j + rm.slots ≤ R.slots) (hr : ∀ v H', Q' v H' → Wp b l Z own nm bytes maxL ret R H' (k + rm.cells) (j + rm.slots) pc' Ls (v.toList ++ rest) Q) : Wp b l Z own nm bytes maxL ret R H k j pc Ls st Q := by
  obtain ⟨hd, rfl⟩ := hd
  refine Wp.stepH fun p e s m args below meth c T L hx hZ hby hml hown hnm hret X N hH => ?_
  obtain ⟨cq, kq, q1, q2, q3⟩ := isOf hZ rfl (E _ hH)
  obtain ⟨v, _, ⟨T', L', k', n'⟩, -, X', ⟨Lc, ⟨N', hsz', H', hH', hQ⟩, l1, y1, z1⟩, stp⟩ := X.interfaceBack hx (xi := x) (y := y) hown (mvT hZ w1) (mvT hZ w2) (mvT hZ wf hfa) (mvT hZ ws) (mvT hZ wi) (mvT hZ wpu) (mvT hZ wu) (mvT hZ wc) hy (backOf (len := 5) (W := (rest.map fun v => v.category).sum) (Q := fun v h L => Fr Z.heap.size L ∧ T.heap.size ≤ h.size ∧ ∃ H', Hp Z h H' ∧ Q' v H') (M [] T.heap hH) hZ w4 w3 hf hl) q1 q2 q3 (g := mkF m pc Ls st) rfl (by rw [hml]; exact hsz) (Steps.refl _) (argsL := as') (rest := rest) (lenOf hpd hlen) hst (by show 2 * 0 + _ ≤ _; omega) (hb hby hd) (fun _ _ => ⟨rfl, rfl, hc, hj⟩)
  dsimp only [Pt.U, Pt.locs, Pt.cells, Pt.slots] at X' l1 y1 z1 stp hH' hsz'
  subst l1 y1 z1
  exact ⟨T', _, _, _, H', _, Ls, v.toList ++ rest, X', hsz', N.app N', hH', hr v H' hQ, fun _ q => stp.trans q⟩
theorem wp_ldcS {text : String} {idx n : Nat} (hd : Dc bytes pc (.ldc idx) 2 pc') (hbt : b = some none) (w : (Cond.stringLink own idx text).before a0 Z = true) (wS : ∀ a ∈ Bundle.stringAtoms, a.before a0 Z = true) (hn : 4 * text.toList.length ≤ n) (hbig : n ≤ 536870912) (hc : k + 2 ≤ R.cells) (hl : j + (n + 4) ≤ R.slots) (hr : ∀ a, Wp b l Z own nm bytes maxL ret R H (k + 2) (j + (n + 4)) pc' Ls (.ref a :: st) Q) : Wp b l Z own nm bytes maxL ret R H k j pc Ls st Q := by
  obtain ⟨hd, rfl⟩ := hd
  intro p e s vm0 k0 m args below meth c T L hx hZ hS hk hby hml hown hnm hret X N hH hB
  obtain ⟨a, T', h', k1, X', e', E', hS', hk1, hZ', hown', stp⟩ := ldcS X hx hZ hown w wS rfl hS hk (g := mkF m pc Ls st) rfl (hb hby hd) hn hbig hc hl
  subst e'
  obtain ⟨T2, v, L2, k2, j2, vm1, k3, H2, ⟨r0, r1, r2⟩, r3, ⟨r4, r5, r6⟩, r7, r8, r9, r10, r11⟩ := hr a p e s T'.vm k1 m args below meth c T' L hx hZ' hS' hk1 hby hml hown' hnm hret X' N (hH.ext E') (fun _ q => by rw [hbt] at q; cases q)
  exact ⟨T2, v, L2, k2, j2, vm1, k3, H2, ⟨r0, r1, fun q => by rw [hbt] at q; cases q⟩, r3, ⟨r4, r5, Nat.le_trans E'.1 r6⟩, r7, r8, r9, r10, fun fs hl => stp _ (r11 fs hl)⟩
theorem wp_cast {a : Addr} {K : String} {idx : Nat} (hd : Dc bytes pc (.checkcast idx) 3 pc') (w : (Cond.classLink own idx K).before a0 Z = true) (F : ∀ h, Hp Z h H → Ins Z h a K true) (hr : Wp b l Z own nm bytes maxL ret R H k j pc' Ls (.ref a :: st) Q) : Wp b l Z own nm bytes maxL ret R H k j pc Ls (.ref a :: st) Q := by
  obtain ⟨hd, rfl⟩ := hd
  refine Wp.stepH fun p e s m args below meth c T L hx hZ hby hml hown hnm hret X N hH => ?_
  obtain ⟨T', X', e', stp⟩ := castY X hx hZ hown w rfl (F _ hH) (g := mkF m pc Ls (.ref a :: st)) rfl rfl (hb hby hd)
  exact ⟨T', L, k, j, H, _, Ls, .ref a :: st, X', by rw [e']; exact Nat.le_refl _, N, by rw [e']; exact hH, hr, stp⟩
theorem wp_instY {a : Addr} {K : String} {idx : Nat} (hd : Dc bytes pc (.instanceof idx) 3 pc') (w : (Cond.classLink own idx K).before a0 Z = true) (F : ∀ h, Hp Z h H → Ins Z h a K true) (hr : Wp b l Z own nm bytes maxL ret R H k j pc' Ls (.int 1 :: st) Q) : Wp b l Z own nm bytes maxL ret R H k j pc Ls (.ref a :: st) Q := by
  obtain ⟨hd, rfl⟩ := hd
  refine Wp.stepH fun p e s m args below meth c T L hx hZ hby hml hown hnm hret X N hH => ?_
  obtain ⟨T', X', e', stp⟩ := instY X hx hZ hown w rfl (F _ hH) (g := mkF m pc Ls (.ref a :: st)) rfl rfl (hb hby hd)
  exact ⟨T', L, k, j, H, _, Ls, .int 1 :: st, X', by rw [e']; exact Nat.le_refl _, N, by rw [e']; exact hH, hr, stp⟩
theorem wp_instN {a : Addr} {C K : String} {idx : Nat} (hd : Dc bytes pc (.instanceof idx) 3 pc') (w : (Cond.classLink own idx K).before a0 Z = true) (E : ExaAt Z H a C) (F : ∃ c t, Z.vm.findClass C = some c ∧ Z.vm.findClass K = some t ∧ Z.vm.assignable c t = false) (hr : Wp b l Z own nm bytes maxL ret R H k j pc' Ls (.int 0 :: st) Q) : Wp b l Z own nm bytes maxL ret R H k j pc Ls (.ref a :: st) Q := by
  obtain ⟨hd, rfl⟩ := hd
  refine Wp.stepH fun p e s m args below meth c T L hx hZ hby hml hown hnm hret X N hH => ?_
  obtain ⟨T', X', e', stp⟩ := instNo X hx hZ hown w rfl (E _ hH) F (g := mkF m pc Ls (.ref a :: st)) rfl rfl (hb hby hd)
  exact ⟨T', L, k, j, H, _, Ls, .int 0 :: st, X', by rw [e']; exact Nat.le_refl _, N, by rw [e']; exact hH, hr, stp⟩
theorem wp_anewarray {C : String} {idx : Nat} {n : Int32} (cnt cap : Nat) (hd : Dc bytes pc (.anewarray idx) 3 pc') (w1 : (Cond.classLink own idx C).before a0 Z = true) (w2 : (Cond.arrayOver (.object C)).before a0 Z = true) (hn : ¬ n < 0) (hcnt : n.toNatClampNeg = cnt) (hcap : cnt ≤ cap) (hb8 : cap * 8 ≤ 536870912) (hc : k + 1 ≤ R.cells) (hl : j + cap ≤ R.slots) (hr : ∀ a, Wp b l Z own nm bytes maxL ret R ((a, oR C (.object C) (List.replicate cnt .null)) :: H) (k + 1) (j + cap) pc' Ls (.ref a :: st) Q) : Wp b l Z own nm bytes maxL ret R H k j pc Ls (.int n :: st) Q := by
  obtain ⟨hd, rfl⟩ := hd
  refine Wp.stepH fun p e s m args below meth c T L hx hZ hby hml hown hnm hret X N hH => ?_
  obtain ⟨T', h', cA, X', e', E', A', B', O', stp⟩ := newRE X hx hZ hown w1 w2 rfl (g := mkF m pc Ls (.int n :: st)) rfl (hb hby hd) rfl hn (cap := cap) (by rw [hcnt]; exact hcap) hb8 hc hl rfl
  subst e'
  refine ⟨T', L, _, _, _, _, Ls, _, X', E'.1, N, hH.cons E' (o := .inr (.inr (.inr (_, _, List.replicate cnt .null)))) ⟨B', _, A', O', ?_, fun v hv => ?_⟩, hr _, stp⟩
  · simp [newA, hcnt, defaultValue]
  · rw [(List.mem_replicate.mp hv).2]; rfl
theorem Sto.ofT {h : Heap} {a y : Addr} {cl : Cell} {ty ty' : FieldType} {C : String} (A : Arr Z h a cl ty') (O : OvrT Z cl.cls C ty) (I : Ins Z h y C true) : Sto Z h a (.ref y) := by
  obtain ⟨k, comp, o1, o2, o3⟩ := O
  obtain ⟨cv, cT, i1, i2, i3⟩ := I
  cases o3.symm.trans i2
  simp only [Bool.and_eq_true, Bool.not_eq_true'] at i3
  obtain ⟨kc, q⟩ := Vm.classAt_of_findClass o3
  obtain ⟨kv, q2⟩ := Vm.classAt_of_assignable i3.2 ⟨kc, q⟩
  exact Or.inr ⟨cl, cv, k, kv, kc, _, _, y, A.1, o1, o2, q, rfl, i1, i3.1, q2, i3.2⟩
theorem wp_aastore {i : Nat} {a : Addr} {C : String} {ty : FieldType} {xs : List Value} {n : Int32} {x : Value} (m : Nat) (hd : Dc bytes pc .aastore 1 pc') (hi : H[i]? = some (a, oR C ty xs)) (hty : ty.isReference = true) (hn : ¬ n < 0) (hm : n.toNatClampNeg = m) (hin : m < xs.length) (F : x = .null ∨ ∃ y, x = .ref y ∧ ∀ h, Hp Z h H → Ins Z h y C true) (hr : Wp b l Z own nm bytes maxL ret R (H.set i (a, oR C ty (xs.set m x))) k j pc' Ls st Q) : Wp b l Z own nm bytes maxL ret R H k j pc Ls (x :: .int n :: .ref a :: st) Q := by
  obtain ⟨hd, rfl⟩ := hd
  refine Wp.stepH fun p e s mm args below meth c T L hx hZ hby hml hown hnm hret X N hH => ?_
  subst hm
  obtain ⟨Eq, cl, A, O, hs, G⟩ := (hH.at hi).2
  obtain ⟨h1, -⟩ := in_of hs hn (v := xs[n.toNatClampNeg]) (by simp [hin])
  have S : Sto Z T.heap a x := by
    rcases F with rfl | ⟨y, rfl, F⟩
    · exact Or.inl rfl
    · exact Sto.ofT A O (F _ hH)
  obtain ⟨T', h', X', e', W', stp⟩ := stR X hx hZ rfl A h1 hty S (g := mkF mm pc Ls (x :: .int n :: .ref a :: st)) rfl rfl (hb hby hd)
  subst e'
  exact ⟨T', _, k, j, _, _, Ls, st, X', by rw [W'.size]; exact Nat.le_refl _, Fr.snoc X' N ((hH.at hi).1 rfl), hH.set hi W' (o' := .inr (.inr (.inr (C, ty, xs.set n.toNatClampNeg x)))) ⟨Eq.wr W', _, A.same W', O, setSlot_list hs, fun y hy => (List.mem_or_eq_of_mem_set hy).elim (G y) fun q => by rw [q]; rcases F with rfl | ⟨y, rfl, F⟩ <;> rfl⟩, hr, stp⟩
theorem sta_of {args : Array Value} {s : State} {C n d K : String} (h : (Cond.exactly (Term.static C n d) K).value args s none s [] = some true) (wi : (Cond.initialized C).before args s = true) (wl : (Cond.laysStatic C n d).before args s = true) : ∃ a, Sta s s.heap C n d (.ref a) ∧ Exa s s.heap a K ∧ (Term.static C n d).eval args s none [] s = some (.ref a) := by
  obtain ⟨a, e⟩ := exa_v h
  exact ⟨a, Sta.start e (Or.inr ⟨wi, wl⟩), Exa.start e h, e⟩
theorem fld_of {args : Array Value} {s : State} {t : Term} {a : Addr} {C n d : String} {v : Int32} (e : t.eval args s none [] s = some (.ref a)) (h : (Cond.eq (Term.field t C n d) (Term.int v)).value args s none s [] = some true) : Fld s s.heap a C n d (.int v) :=
  Fld.start ((fld_at e).symm.trans (Cond.eq_int (Cond.before_iff.mpr h) rfl))
theorem Sat.keep {h h' : Heap} {b : Addr} {ws : List Addr} (K : Keep h h' ws) (q : b ∉ ws) : ∀ {o : ObjB}, Sat Z h b o → Sat Z h' b o
  | .inl (C, sg, vs), ⟨h1, h2, h3⟩ => ⟨h1.keep K, h2, fun i f v r t => (h3 i f v r t).keep K q⟩
  | .inr (.inl (ty, xs)), ⟨r, c, h1, h2⟩ => ⟨r.imp id (·.keep K), c, ⟨K.2.1 _ _ h1.1 q, h1.2⟩, h2⟩
  | .inr (.inr (.inl xs)), ⟨r, c, h1, h2⟩ => ⟨r.keep K, c, ⟨K.2.1 _ _ h1.1 q, h1.2⟩, h2⟩
  | .inr (.inr (.inr (C, ty, vs))), ⟨r, c, h1, h2⟩ => ⟨r.keep K, c, ⟨K.2.1 _ _ h1.1 q, h1.2⟩, h2⟩
theorem Hp.setK {h h' : Heap} (P : Hp Z h H) {i : Nat} {a : Addr} {o o' : ObjB} (q : H[i]? = some (a, (true, o))) (K : Keep h h' [a]) (S : Sat Z h' a o') : Hp Z h' (H.set i (a, (true, o'))) := by
  have g : Z.heap.size ≤ a := (P.at q).1 rfl
  obtain ⟨hi, hq⟩ := List.getElem?_eq_some_iff.mp q
  refine ⟨⟨Nat.le_trans P.1.1 K.1, fun b c r => ?_⟩, fun x hx => ?_, ?_⟩
  · have : b < Z.heap.size := (Array.getElem?_eq_some_iff.mp r).1
    exact K.2.1 _ _ (P.1.2 b c r) (ninS (by rintro rfl; exact absurd this (Nat.not_lt.mpr g)) nin0)
  · obtain ⟨n, hn⟩ := List.getElem?_of_mem hx
    rw [List.getElem?_set] at hn
    split at hn
    · have e0 : (a, (true, o')) = x := by simpa [hi] using hn
      subst e0; exact ⟨fun _ => g, S⟩
    · rename_i ne
      exact ⟨(P.at hn).1, (P.at hn).2.keep K (ninS (P.ne hn q (Or.inr rfl) (Ne.symm ne)) nin0)⟩
  · have e : (H.set i (a, (true, o'))).map (fun x => (x.1, x.2.1)) = H.map (fun x => (x.1, x.2.1)) := by
      rw [List.map_set]
      refine List.ext_getElem? fun n => ?_
      rw [List.getElem?_set]
      split
      · rename_i e; subst e
        simp [hi, hq]
      · rfl
    have h1 : (H.map (fun x => (x.1, x.2.1))).Pairwise (fun u v => (u.2 = true ∨ v.2 = true) → u.1 ≠ v.1) := List.pairwise_map.mpr P.2.2
    rw [← e] at h1
    exact List.pairwise_map.mp h1
theorem nat_i32 {n : Nat} (h : n < 2 ^ 31) : (Int32.ofNat n).toNatClampNeg = n ∧ ¬ Int32.ofNat n < 0 := by
  have e : (Int32.ofNat n).toInt = n := Int32.toInt_ofNat_of_lt h
  refine ⟨by simp only [Int32.toNatClampNeg, e]; omega, ?_⟩
  rw [Int32.lt_iff_toInt_lt, e]; simp only [Int32.reduceToInt]; omega
theorem Sat.arv {h : Heap} {a : Addr} {ty : FieldType} {xs : List Int32} (S : Sat Z h a (.inr (.inl (ty, xs)))) (hl : xs.length < 2 ^ 31) : ∃ kc, Arv Z h a kc ty (Int32.ofNat xs.length) (xs.map Value.int) (.int 0) := by
  obtain ⟨-, c, A, hs, G⟩ := S
  refine ⟨c.cls, c, A, rfl, by rw [hs, (nat_i32 hl).1]; simp, (nat_i32 hl).2, fun i hi => ?_, fun i hi => ?_⟩
  · rw [hs] at hi ⊢; simp at hi; simp [hi]
  · rw [hs] at hi; simp at hi; simp [hi, G _ (List.getElem_mem hi)]
theorem Arv.sat {h : Heap} {a : Addr} {kc : ClassId} {ty : FieldType} {xs : List Int32} (V : Arv Z h a kc ty (Int32.ofNat xs.length) (xs.map Value.int) (.int 0)) (hl : xs.length < 2 ^ 31) (Eq : ty = .byte ∨ Exa Z h a ("[" ++ ty.toString)) : Sat Z h a (.inr (.inl (ty, xs))) := by
  obtain ⟨c, A, -, S, -, Hs, G⟩ := V
  rw [(nat_i32 hl).1] at S
  refine ⟨Eq, c, A, ?_, fun x hx => ?_⟩
  · refine Array.ext_getElem? fun i => ?_
    by_cases hi : i < c.slots.size
    · rw [Hs i hi]; rw [S] at hi; simp [hi]
    · rw [Array.getElem?_eq_none (Nat.le_of_not_lt hi)]; rw [S] at hi; symm; simp; omega
  · obtain ⟨i, hi, rfl⟩ := List.getElem_of_mem hx
    have := G i (by rw [S]; exact hi)
    simpa [hi] using this
theorem wp_arraycopyI {i i' : Nat} {a c' : Addr} {fl : Bool} {ty : FieldType} {xs ys : List Int32} {sp dp nn : Int32} {idx : Nat} (m1 m2 m3 : Nat) (hd : Dc bytes pc (.invokestatic idx) 3 pc') (w1 : (Cond.methodLink own idx Jvm.Stand.acN).before a0 Z = true) (w2 : (Cond.native Jvm.Stand.acN).before a0 Z = true) (w3 : (Cond.static Jvm.Stand.acN).before a0 Z = true) (w4 : (Cond.initialized "java/lang/System").before a0 Z = true) (hi : H[i]? = some (a, (fl, .inr (.inl (ty, xs))))) (hi' : H[i']? = some (c', oA ty ys)) (hp : refKind ty = false) (h1 : ¬ sp < 0) (h2 : ¬ dp < 0) (h3 : ¬ nn < 0) (e1 : sp.toNatClampNeg = m1) (e2 : dp.toNatClampNeg = m2) (e3 : nn.toNatClampNeg = m3) (h4 : m1 + m3 ≤ xs.length) (h5 : m2 + m3 ≤ ys.length) (hx31 : xs.length < 2 ^ 31) (hy31 : ys.length < 2 ^ 31) (hsz : Ls.size = maxL) (hf : 1 ≤ R.frames) (hl : (st.map fun v => v.category).sum + (nativeFrameWords "java/lang/System" "arraycopy" 5 + 11) ≤ R.locals) (hr : Wp b l Z own nm bytes maxL ret R (H.set i' (c', oA ty (ys.take m2 ++ (xs.drop m1).take m3 ++ ys.drop (m2 + m3)))) k j pc' Ls st Q) : Wp b l Z own nm bytes maxL ret R H k j pc Ls (.int nn :: .int dp :: .ref c' :: .int sp :: .ref a :: st) Q := by
  obtain ⟨hd, rfl⟩ := hd
  subst e1 e2 e3
  refine Wp.stepH fun p e s m args below meth c T L hx hZ hby hml hown hnm hret X N hH => ?_
  obtain ⟨kc, V1⟩ := (hH.at hi).2.arv hx31
  obtain ⟨kd, V2⟩ := (hH.at hi').2.arv hy31
  obtain ⟨T', h', L', X', e', N', K', V', stp⟩ := cpA X hx hZ hown w1 w2 w3 w4 rfl V1 V2 (Or.inl ⟨rfl, hp⟩) h1 h2 h3 (by rw [(nat_i32 hx31).1]; exact h4) (by rw [(nat_i32 hy31).1]; exact h5) (us := ((xs.drop sp.toNatClampNeg).take nn.toNatClampNeg).map Value.int) (by
    refine List.ext_getElem? fun n => ?_
    simp only [List.getElem?_map, List.getElem?_range]
    by_cases hn : n < nn.toNatClampNeg
    · simp [hn, show sp.toNatClampNeg + n < xs.length by omega]
    · simp [hn]; omega) (by simpa using h5) N ((hH.at hi').1 rfl) (g := mkF m pc Ls (.int nn :: .int dp :: .ref c' :: .int sp :: .ref a :: st)) rfl (by rw [hml]; exact hsz) rfl (hb hby hd) hf (W := (st.map fun v => v.category).sum) (by show 2 * 0 + _ ≤ _; omega) hl
  subst e'
  have hlen : (ys.take dp.toNatClampNeg ++ (xs.drop sp.toNatClampNeg).take nn.toNatClampNeg ++ ys.drop (dp.toNatClampNeg + nn.toNatClampNeg)).length = ys.length := by
    simp only [List.length_append, List.length_take, List.length_drop]; omega
  refine ⟨T', L', k, j, _, _, Ls, st, X', K'.1, N', hH.setK hi' K' (Arv.sat (kc := kd) ?_ (by rw [hlen]; exact hy31) ((hH.at hi').2.1.imp id (·.keep K'))), hr, stp⟩
  rw [hlen]
  simpa [List.map_append, List.map_take, List.map_drop] using V'
theorem wp_anewarrayA {C : String} {ty : FieldType} {idx : Nat} {n : Int32} (cnt cap : Nat) (hd : Dc bytes pc (.anewarray idx) 3 pc') (hC : (FieldType.array ty).toString = C) (w1 : (Cond.classLink own idx C).before a0 Z = true) (w2 : (Cond.arrayOver (.array ty)).before a0 Z = true) (hn : ¬ n < 0) (hcnt : n.toNatClampNeg = cnt) (hcap : cnt ≤ cap) (hb8 : cap * 8 ≤ 536870912) (hc : k + 1 ≤ R.cells) (hl : j + cap ≤ R.slots) (hr : ∀ a, Wp b l Z own nm bytes maxL ret R ((a, oR C (.array ty) (List.replicate cnt .null)) :: H) (k + 1) (j + cap) pc' Ls (.ref a :: st) Q) : Wp b l Z own nm bytes maxL ret R H k j pc Ls (.int n :: st) Q := by
  obtain ⟨hd, rfl⟩ := hd
  refine Wp.stepH fun p e s m args below meth c T L hx hZ hby hml hown hnm hret X N hH => ?_
  obtain ⟨T', h', cA, X', e', E', A', B', O', stp⟩ := newRA X hx hZ hown hC w1 w2 rfl (g := mkF m pc Ls (.int n :: st)) rfl (hb hby hd) rfl hn (cap := cap) (by rw [hcnt]; exact hcap) hb8 hc hl rfl
  subst e'
  refine ⟨T', L, _, _, _, _, Ls, _, X', E'.1, N, hH.cons E' (o := .inr (.inr (.inr (C, .array ty, List.replicate cnt .null)))) ⟨by rw [hC]; exact B', _, A', O', ?_, fun v hv => ?_⟩, hr _, stp⟩
  · simp [newA, hcnt, defaultValue]
  · rw [(List.mem_replicate.mp hv).2]; rfl
theorem ins_arr {i : Nat} {a : Addr} {fl : Bool} {ty : FieldType} {xs : List Int32} {K : String} (hi : H[i]? = some (a, (fl, .inr (.inl (ty, xs))))) (hty : ty ≠ .byte) (wc : (Cond.castable ("[" ++ ty.toString) K).before a0 Z = true) : ∀ h, Hp Z h H → Ins Z h a K true := fun h P => Ins.of_exa ((P.at hi).2.1.resolve_left hty) wc
theorem ins_new {i : Nat} {a : Addr} {fl : Bool} {C K : String} {sg : OSig} {vs : List Value} (hi : H[i]? = some (a, (fl, .inl (C, sg, vs)))) (wc : (Cond.castable C K).before a0 Z = true) : ∀ h, Hp Z h H → Ins Z h a K true := fun h P => Ins.of_exa (P.at hi).2.1 wc
theorem ns_root {O K : String} {kk : Nat} (w : (Cond.noSuperclass O).before a0 Z = true) (wk : (Cond.instantiable K kk).before a0 Z = true) (hn : O ≠ K) : NS Z O K := by
  obtain ⟨c, k, h1, h2, h3, -, -⟩ := Cond.noSuperclass_spec w
  obtain ⟨t, kt, g1, -⟩ := Cond.instantiable_spec wk
  have ne := ids_ne h1 g1 hn
  refine ⟨c, t, h1, g1, fun fuel => ?_⟩
  cases fuel with
  | zero => rfl
  | succ f => simp [Vm.isSubclassAux, ne, h2, h3]
theorem ns_no {C S K : String} {kk : Nat} (w : (Cond.superclass C S).before a0 Z = true) (wk : (Cond.instantiable K kk).before a0 Z = true) (n : NS Z C K) (hn : C ≠ K) : ∃ c t, Z.vm.findClass C = some c ∧ Z.vm.findClass K = some t ∧ Z.vm.assignable c t = false := by
  obtain ⟨c, t, h0, g0, n3⟩ := n
  obtain ⟨p, k, kp, h1, h2, h3, h4, h5, -, h7⟩ := Cond.superclass_spec h0 w
  obtain ⟨t', kt, g1, g2, g5, g6, -⟩ := Cond.instantiable_spec wk
  cases g0.symm.trans g1
  have g7 : kt.isInterface = false := by cases q : kt.isInterface with | false => rfl | true => rw [q] at g6; cases g6
  have ne := ids_ne h0 g0 hn
  refine ⟨c, t, h0, g0, ?_⟩
  show Z.vm.assignableAux (255 + 1) c t = false
  simp [Vm.assignableAux, ne, h2, g2, h5, g5, g7, Vm.isSubclass, n3]
theorem wp_aaload_old {a : Addr} {cl : Cell} {ty : FieldType} {n : Int32} {x : Value} (hd : Dc bytes pc .aaload 1 pc') (A : Arr Z Z.heap a cl ty) (hty : ty.isReference = true) (hin : ¬ (n < 0 ∨ cl.slots.size ≤ n.toNatClampNeg)) (hv : cl.slots[n.toNatClampNeg]? = some x) (hr : Wp b l Z own nm bytes maxL ret R H k j pc' Ls (x :: st) Q) : Wp b l Z own nm bytes maxL ret R H k j pc Ls (.int n :: .ref a :: st) Q := by
  obtain ⟨hd, rfl⟩ := hd
  refine Wp.step (fun p e s m args below meth c T L hx hZ hby hown X hH target h => ?_) hr
  exact X.aaload hx (hH.1.2 _ _ A.1) (State.isArrayOf_alike hZ.alike A.2.1) hty A.2.2 hin hv (g := mkF m pc Ls (.int n :: .ref a :: st)) rfl rfl (hb hby hd) _ h
theorem Hp.old {h : Heap} (P : Hp Z h H) {a : Addr} {o : ObjB} (S : Sat Z Z.heap a o) : Hp Z h ((a, (false, o)) :: H) :=
  ⟨P.1, fun x q => (List.mem_cons.mp q).elim (fun e => by subst e; exact ⟨(fun e => nomatch e), S.ext P.1⟩) fun q => P.2.1 x q,
    List.Pairwise.cons (fun y q t e => absurd ((P.2.1 y q).1 (t.elim (fun e => nomatch e) id)) (by rw [← e]; exact Nat.not_le.mpr S.lt)) P.2.2⟩
/-- an object of the start is laid to the list, only to be read -/
theorem Wp.old {a : Addr} {o : ObjB} (S : Sat Z Z.heap a o) (hr : Wp b l Z own nm bytes maxL ret R ((a, (false, o)) :: H) k j pc Ls st Q) : Wp b l Z own nm bytes maxL ret R H k j pc Ls st Q :=
  Wp.stepH fun p e s m args below meth c T L hx hZ hby hml hown hnm hret X N hH => ⟨T, L, k, j, _, pc, Ls, st, X, Nat.le_refl _, N, hH.old S, hr, fun _ q => q⟩
abbrev sgStr : OSig := [("java/lang/String", "value", "[B"), ("java/lang/String", "coder", "B")]
abbrev strO (v : Addr) : Obj := fI "java/lang/String" sgStr [.ref v, .int 0]
theorem wp_ldcV {text : String} {Ts : List String} {idx n : Nat} (xs : List Int32) (hd : Dc bytes pc (.ldc idx) 2 pc') (w : (Cond.stringLink own idx text).before a0 Z = true) (wS : ∀ a ∈ Bundle.stringAtoms, a.before a0 Z = true) (slo : Slo Z sgStr) (hh : Jvm.Lit.constHeld Z own idx) (hcw : Jvm.Lit.compactW.before a0 Z = true) (hnot : text ∉ Ts) (ht : (∀ c ∈ text.toList, c.toNat < 256) ∧ text.toList.map (fun c => Value.int (Jvm.Lit.byteI c.toNat.toUInt16)) = xs.map Value.int) (h31 : xs.length < 2 ^ 31) (hn : 4 * text.toList.length ≤ n) (hbig : n ≤ 536870912) (hc : k + 2 ≤ R.cells) (hl : j + (n + 4) ≤ R.slots) (hr : ∀ a v, Wp (some (some (text :: Ts))) l Z own nm bytes maxL ret R ((a, strO v) :: (v, fA .byte xs) :: H) (k + 2) (j + (n + 4)) pc' Ls (.ref a :: st) Q) : Wp (some (some Ts)) l Z own nm bytes maxL ret R H k j pc Ls st Q := by
  obtain ⟨hd, rfl⟩ := hd
  intro p e s vm0 k0 m args below meth c T L hx hZ hS hk hby hml hown hnm hret X N hH hB
  obtain ⟨eZ, I⟩ := hB Ts rfl
  obtain ⟨a, T', h', k1, v, kc, X', e', E', hS', hk1, hZ', hown', A1, A2, A3, A4, l1, l2, I', -, wh, stp⟩ := ldcSVd X hx hZ hown w wS rfl hS hk (by rw [eZ]; exact N) (fun b cl q => by rw [eZ]; exact q) I hnot hh hcw (z := Int32.ofNat xs.length) ht (nat_i32 h31).2 (by rw [(nat_i32 h31).1]; simp) (g := mkF m pc Ls st) rfl (hb hby hd) hn hbig hc hl
  subst e'
  have far : ∀ y ∈ H, y.2.1 = true → a ≠ y.1 ∧ v ≠ y.1 := by
    intro y q t
    have g1 := (hH.2.1 y q).1 t
    have g2 := (hH.2.1 y q).2.lt
    rw [eZ] at wh
    constructor
    · intro e0; rw [← e0] at g1 g2
      rcases wh with w1 | w1
      · exact absurd w1.1 (Nat.not_lt.mpr g1)
      · exact absurd g2 (Nat.not_lt.mpr w1.1)
    · intro e0; rw [← e0] at g1 g2
      rcases wh with w1 | w1
      · exact absurd w1.2 (Nat.not_lt.mpr g1)
      · exact absurd g2 (Nat.not_lt.mpr w1.2)
  have Sa : Sat Z T'.heap a (.inl ("java/lang/String", sgStr, [.ref v, .int 0])) := by
    refine ⟨A1, slo, fun i f u q r => ?_⟩
    rcases i with _ | _ | i
    · cases q; cases r; exact A3
    · cases q; cases r; exact A2
    · simp at q
  have Sv : Sat Z T'.heap v (.inr (.inl (.byte, xs))) := Arv.sat A4 h31 (Or.inl rfl)
  have H2 : Hp Z T'.heap ((a, strO v) :: (v, fA .byte xs) :: H) := by
    have h0 := hH.ext E'
    refine ⟨h0.1, fun x q => ?_, List.Pairwise.cons (fun y q t => ?_) (List.Pairwise.cons (fun y q t => ?_) h0.2.2)⟩
    · rcases List.mem_cons.mp q with rfl | q
      · exact ⟨(fun e => nomatch e), Sa⟩
      · rcases List.mem_cons.mp q with rfl | q
        · exact ⟨(fun e => nomatch e), Sv⟩
        · exact h0.2.1 x q
    · rcases List.mem_cons.mp q with rfl | q
      · rcases t with t | t <;> cases t
      · exact (far y q (t.elim (fun e => nomatch e) id)).1
    · exact (far y q (t.elim (fun e => nomatch e) id)).2
  obtain ⟨T2, u, L2, k2, j2, vm1, k3, H3, ⟨r0, r1, r2⟩, r3, ⟨r4, r5, r6⟩, r7, r8, r9, r10, r11⟩ := hr a v p e s T'.vm k1 m args below meth c T' L hx hZ' hS' hk1 hby hml hown' hnm hret X' N H2 (fun Ts' q => by cases q; exact ⟨eZ, I'⟩)
  exact ⟨T2, u, L2, k2, j2, vm1, k3, H3, ⟨r0, r1, fun q => nomatch q⟩, r3, ⟨r4, r5, Nat.le_trans E'.1 r6⟩, r7, r8, r9, r10, fun fs hl => stp _ (r11 fs hl)⟩
theorem Fld.fun {h : Heap} {a : Addr} {C n d : String} {u v : Value} (F : Fld Z h a C n d u) (G : Fld Z h a C n d v) : u = v := by
  obtain ⟨c, cf, k, i, f, h1, h2, -, -, -, -, h7⟩ := F
  obtain ⟨c', cf', k', i', f', g1, g2, -, -, -, -, g7⟩ := G
  cases h1.symm.trans g1
  cases h2.symm.trans g2
  exact Option.some.inj (h7.symm.trans g7)
/-- two Strings of unlike contents are two -/
theorem str_ne {h : Heap} {i i' k k' : Nat} {s s' v v' : Addr} {xs ys : List Int32} (P : Hp Z h H) (h1 : H[i]? = some (s, strO v)) (h2 : H[k]? = some (v, fA .byte xs)) (h3 : H[i']? = some (s', strO v')) (h4 : H[k']? = some (v', fA .byte ys)) (ne : xs ≠ ys) : ¬ Value.ref s = Value.ref s' := by
  intro e
  cases e
  have f1 := (P.at h1).2.2.2 0 _ _ rfl rfl
  have f2 := (P.at h3).2.2.2 0 _ _ rfl rfl
  cases Fld.fun f1 f2
  obtain ⟨-, c, A, hs, -⟩ := (P.at h2).2
  obtain ⟨-, c', A', hs', -⟩ := (P.at h4).2
  cases A.1.symm.trans A'.1
  have e0 : xs.map Value.int = ys.map Value.int := congrArg Array.toList (hs.symm.trans hs')
  exact ne (List.map_inj_right (fun a b q => by cases q; rfl) |>.mp e0)
theorem bytes_old {t : Term} {a : Addr} {xs : List Int32} {cl : Cell} (A : Arr Z Z.heap a cl .byte) (hs : cl.slots = (xs.map Value.int).toArray) (hf : ∀ x ∈ xs, fits .byte (.int x) = true) : Sat Z Z.heap a (.inr (.inl (.byte, xs))) := ⟨Or.inl rfl, cl, A, hs, hf⟩
theorem str_old {a v : Addr} (slo : Slo Z sgStr) (E : Exa Z Z.heap a "java/lang/String") (F : Fld Z Z.heap a "java/lang/String" "value" "[B" (.ref v)) (G : Fld Z Z.heap a "java/lang/String" "coder" "B" (.int 0)) : Sat Z Z.heap a (.inl ("java/lang/String", sgStr, [.ref v, .int 0])) := by
  refine ⟨E, slo, fun i f u q r => ?_⟩
  rcases i with _ | _ | i
  · cases q; cases r; exact F
  · cases q; cases r; exact G
  · simp at q
/-- the contract of a body with an exception table (the walk throws nothing) -/
def MetX (l : Launch) (Z : State) (y : MethodName) (bytes : ByteArray) (maxL : Nat) (ret : Option FieldType) (hs : List (Nat × Nat × Nat × Nat)) (rm : Room) (as' : List Value) (H : OH) (Q : Option Value → OH → Prop) : Prop :=
  ∀ (ws : List Jvm.Cond) (h : Heap), Hp Z h H → MetFree l y (head1 (Jvm.Cond.codeWith y bytes maxL ret hs :: ws) rm) (fun a U => a = as'.toArray ∧ Z.Warmed39 U.vm ∧ U.heap = h) (fun _ _ _ _ _ => True)
    (fun _ U o U' => ∃ v L, o = .returned v ∧ (Fr Z.heap.size L ∧ h.size ≤ U'.heap.size ∧ ∃ H', Hp Z U'.heap H' ∧ Q v H') ∧ FrameEnd U o U' L rm.cells rm.slots)
theorem MetX.of_wp {y : MethodName} {hs : List (Nat × Nat × Nat × Nat)} {rm : Room} {as' : List Value} (hx : plainFor y = true) (hef : ∀ m, entryFrame m as'.toArray maxL = mkF m 0 Ls []) (hw : Wp none l Z y.cls y.name bytes maxL ret rm H 0 0 0 Ls [] Q) : MetX l Z y bytes maxL ret hs rm as' H Q := by
  intro ws h hH
  refine MetFree.of_bodySF hx hisWith ?_
  intro p e s m args below meth c s₁ Bd hml0 hP hK
  obtain ⟨rfl, hZ, hh⟩ := hP
  have X0 : Stand p l e rm s m as'.toArray below meth c s₁ [] 0 0 := Stand.of_body Bd
  have e0 : s₁.heap = h := by rw [← hh, Bd.state]; rfl
  obtain ⟨T', v, L', k', j', vm1, k1, H', ⟨hS, hk1, hvm⟩, X', ⟨hc, hj, hsz⟩, N', hH', hv, hQ, stp⟩ := hw p e s s.vm 0 m as'.toArray below meth c s₁ [] Bd.exec hZ ((State.WarmedH.refl s).since 0) (Nat.zero_le _) Bd.bytes hml0 (findClass_of_methodNamed Bd.named) (name_of_methodNamed Bd.named Bd.method).1 Bd.returns X0 (Fr.nil _) (by rw [e0]; exact hH) (fun _ q => nomatch q)
  obtain rfl := hvm rfl
  have X'' : Stand p l e rm s m as'.toArray below meth c T' L' k' j' := X'
  obtain ⟨fs, hr, hrun, hended, hW, hsame⟩ := X''.leave (v := v) (fun h => hv (Bd.returns.symm.trans h))
  refine ⟨_, _, castTop (hef m) (stp fs hr), hrun, hended, v, L', rfl, ⟨N', ?_, H', hH', hQ⟩, ⟨_, rfl⟩, hW, hsame.mono hc hj⟩
  rw [e0] at hsz; exact hsz
theorem wp_virtualX {hs : List (Nat × Nat × Nat × Nat)} {y : MethodName} {bytes' : ByteArray} {maxL' : Nat} {ret' : Option FieldType} {rm : Room} {rest : List Value} {Q' : Option Value → OH → Prop} {idx : Nat} {ps : List FieldType} {rt : Option FieldType} {x : MethodName} {C : String} {a : Addr} {as' : List Value} (M : MetX l Z y bytes' maxL' ret' hs rm (.ref a :: as') H Q') (E : ExaAt Z H a C) (hd : Dc bytes pc (.invokevirtual idx) 3 pc') (w1 : (Cond.methodLink own idx x).before a0 Z = true) (w2 : (Cond.declares x).before a0 Z = true) (wn : (Cond.selects x.cls x x).before a0 Z = true) (ws : (Cond.selects C x y).before a0 Z = true) (wi : (Cond.instanceMethod y).before a0 Z = true) (w3 : (Cond.initialized y.cls).before a0 Z = true) (w4 : (Cond.codeWith y bytes' maxL' ret' hs).before a0 Z = true) (hy : x.cls ≠ "java/lang/invoke/MethodHandle" ∧ x.cls ≠ "java/lang/invoke/VarHandle") (hpd : parseMethodDescriptor x.desc = some ⟨ps, rt⟩) (hlen : as'.length = ps.length) (hst : st = as'.reverse ++ .ref a :: rest) (hsz : Ls.size = maxL) (hf : rm.frames + 1 ≤ R.frames) (hl : (rest.map fun v => v.category).sum + (maxL' + 11) + rm.locals ≤ R.locals) (hc : k + rm.cells ≤ R.cells) (hj : j + rm.slots ≤ R.slots) (hr : ∀ v H', Q' v H' → Wp b l Z own nm bytes maxL ret R H' (k + rm.cells) (j + rm.slots) pc' Ls (v.toList ++ rest) Q) : Wp b l Z own nm bytes maxL ret R H k j pc Ls st Q := by
  obtain ⟨hd, rfl⟩ := hd
  refine Wp.stepH fun p e s m args below meth c T L hx hZ hby hml hown hnm hret X N hH => ?_
  obtain ⟨cq, kq, q1, q2, q3⟩ := isOf hZ rfl (E _ hH)
  obtain ⟨v, _, ⟨T', L', k', n'⟩, -, X', ⟨Lc, ⟨N', hsz', H', hH', hQ⟩, l1, y1, z1⟩, stp⟩ := X.virtualBack hx (y := x) (z := y) hown (mvT hZ w1) (mvT hZ w2) (notFace_of_selects (args := #[]) (mvT hZ wn)) (mvT hZ ws) (mvT hZ wi) hy (backOfWith (W := (rest.map fun v => v.category).sum) (Q := fun v h L => Fr Z.heap.size L ∧ T.heap.size ≤ h.size ∧ ∃ H', Hp Z h H' ∧ Q' v H') (M [] T.heap hH) hZ w4 w3 hf hl) q1 q3 (g := mkF m pc Ls st) rfl (by rw [hml]; exact hsz) (Steps.refl _) (argsL := as') (rest := rest) (lenOf hpd hlen) hst (by show 2 * 0 + _ ≤ _; omega) (hb hby hd) (fun _ _ => ⟨rfl, rfl, hc, hj⟩)
  dsimp only [Pt.U, Pt.locs, Pt.cells, Pt.slots] at X' l1 y1 z1 stp hH' hsz'
  subst l1 y1 z1
  exact ⟨T', _, _, _, H', _, Ls, v.toList ++ rest, X', hsz', N.app N', hH', hr v H' hQ, fun _ q => stp.trans q⟩
theorem wp_callSX {hs : List (Nat × Nat × Nat × Nat)} {y : MethodName} {bytes' : ByteArray} {maxL' : Nat} {ret' : Option FieldType} {rm : Room} {rest : List Value} {Q' : Option Value → OH → Prop} {idx : Nat} {ps : List FieldType} {rt : Option FieldType} {as' : List Value} (M : MetX l Z y bytes' maxL' ret' hs rm as' H Q') (hd : Dc bytes pc (.invokestatic idx) 3 pc') (w1 : (Cond.methodLink own idx y).before a0 Z = true) (w2 : (Cond.static y).before a0 Z = true) (w3 : (Cond.initialized y.cls).before a0 Z = true) (w4 : (Cond.codeWith y bytes' maxL' ret' hs).before a0 Z = true) (hy : y.cls ≠ "java/lang/invoke/MethodHandle" ∧ y.cls ≠ "java/lang/invoke/VarHandle") (hpd : parseMethodDescriptor y.desc = some ⟨ps, rt⟩) (hlen : as'.length = ps.length) (hst : st = as'.reverse ++ rest) (hsz : Ls.size = maxL) (hf : rm.frames + 1 ≤ R.frames) (hl : (rest.map fun v => v.category).sum + (maxL' + 11) + rm.locals ≤ R.locals) (hc : k + rm.cells ≤ R.cells) (hj : j + rm.slots ≤ R.slots) (hr : ∀ v H', Q' v H' → Wp b l Z own nm bytes maxL ret R H' (k + rm.cells) (j + rm.slots) pc' Ls (v.toList ++ rest) Q) : Wp b l Z own nm bytes maxL ret R H k j pc Ls st Q := by
  obtain ⟨hd, rfl⟩ := hd
  refine Wp.stepH fun p e s m args below meth c T L hx hZ hby hml hown hnm hret X N hH => ?_
  obtain ⟨v, _, ⟨T', L', k', n'⟩, -, X', ⟨Lc, ⟨N', hsz', H', hH', hQ⟩, l1, y1, z1⟩, stp⟩ := Jvm.RoadKit.callSH X hx (y := y) hown (mvT hZ w1) (mvT hZ w2) (mvT hZ w3) (mvT hZ w4) hy (backOfWith (W := (rest.map fun v => v.category).sum) (Q := fun v h L => Fr Z.heap.size L ∧ T.heap.size ≤ h.size ∧ ∃ H', Hp Z h H' ∧ Q' v H') (M [] T.heap hH) hZ w4 w3 hf hl) (g := mkF m pc Ls st) rfl (by rw [hml]; exact hsz) (argsL := as') (rest := rest) (lenOf hpd hlen) hst (by show 2 * 0 + _ ≤ _; omega) (hb hby hd) (fun _ _ => ⟨rfl, rfl, hc, hj⟩)
  dsimp only [Pt.U, Pt.locs, Pt.cells, Pt.slots] at X' l1 y1 z1 stp hH' hsz'
  subst l1 y1 z1
  exact ⟨T', _, _, _, H', _, Ls, v.toList ++ rest, X', hsz', N.app N', hH', hr v H' hQ, stp⟩
theorem wp_dload_n {n : Fin 4} {v : UInt64} (hd : Dc bytes pc (.dload_n n) 1 pc') (hl : Ls[n.val]? = some (.val (.double v))) (hr : Wp b l Z own nm bytes maxL ret R H k j pc' Ls (.double v :: st) Q) : Wp b l Z own nm bytes maxL ret R H k j pc Ls st Q := by
  obtain ⟨hd, rfl⟩ := hd
  exact Wp.step (fun p e s m args below meth c T L hx hZ hby hown X hH target ht => XS.dloadN X.here hx rfl (hb hby hd) hl ht) hr
theorem wp_dload {n : Nat} {v : UInt64} (hd : Dc bytes pc (.dload n) 2 pc') (hl : Ls[n]? = some (.val (.double v))) (hr : Wp b l Z own nm bytes maxL ret R H k j pc' Ls (.double v :: st) Q) : Wp b l Z own nm bytes maxL ret R H k j pc Ls st Q := by
  obtain ⟨hd, rfl⟩ := hd
  exact Wp.step (fun p e s m args below meth c T L hx hZ hby hown X hH target ht => XS.dload X.here hx rfl (hb hby hd) hl ht) hr
theorem wp_dstore_n {n : Fin 4} {x : UInt64} (Ls' : Array Slot) (hd : Dc bytes pc (.dstore_n n) 1 pc') (hl : storeLocals Ls n.val (.double x) = some Ls') (hr : Wp b l Z own nm bytes maxL ret R H k j pc' Ls' st Q) : Wp b l Z own nm bytes maxL ret R H k j pc Ls (.double x :: st) Q := by
  obtain ⟨hd, rfl⟩ := hd
  exact Wp.step (fun p e s m args below meth c T L hx hZ hby hown X hH target ht => XS.dstoreN X.here hx rfl (hb hby hd) rfl hl ht) hr
theorem wp_dstore {n : Nat} {x : UInt64} (Ls' : Array Slot) (hd : Dc bytes pc (.dstore n) 2 pc') (hl : storeLocals Ls n (.double x) = some Ls') (hr : Wp b l Z own nm bytes maxL ret R H k j pc' Ls' st Q) : Wp b l Z own nm bytes maxL ret R H k j pc Ls (.double x :: st) Q := by
  obtain ⟨hd, rfl⟩ := hd
  exact Wp.step (fun p e s m args below meth c T L hx hZ hby hown X hH target ht => XS.dstore X.here hx rfl (hb hby hd) rfl hl ht) hr
theorem wp_dconst0 (v : UInt64) (hd : Dc bytes pc (.dconst 0) 1 pc') (hv : FP.dconst0 = v) (hr : Wp b l Z own nm bytes maxL ret R H k j pc' Ls (.double v :: st) Q) : Wp b l Z own nm bytes maxL ret R H k j pc Ls st Q := by
  obtain ⟨hd, rfl⟩ := hd
  exact Wp.step (fun p e s m args below meth c T L hx hZ hby hown X hH target ht => XS.dconst0 X.here hx rfl (hb hby hd) hv ht) hr
theorem wp_dconst1 (v : UInt64) (hd : Dc bytes pc (.dconst 1) 1 pc') (hv : FP.dconst1 = v) (hr : Wp b l Z own nm bytes maxL ret R H k j pc' Ls (.double v :: st) Q) : Wp b l Z own nm bytes maxL ret R H k j pc Ls st Q := by
  obtain ⟨hd, rfl⟩ := hd
  exact Wp.step (fun p e s m args below meth c T L hx hZ hby hown X hH target ht => XS.dconst1 X.here hx rfl (hb hby hd) hv ht) hr
theorem wp_i2d {x : Int32} (v : UInt64) (hd : Dc bytes pc (.i2d) 1 pc') (hv : FP.i2d x = v) (hr : Wp b l Z own nm bytes maxL ret R H k j pc' Ls (.double v :: st) Q) : Wp b l Z own nm bytes maxL ret R H k j pc Ls (.int x :: st) Q := by
  obtain ⟨hd, rfl⟩ := hd
  exact Wp.step (fun p e s m args below meth c T L hx hZ hby hown X hH target ht => XS.i2dS X.here hx rfl (hb hby hd) rfl hv ht) hr
theorem wp_dadd {x y : UInt64} (v : UInt64) (hd : Dc bytes pc (.dadd) 1 pc') (hn : Jvm.Free.Fl.NoNaN64 (FP.dadd x y)) (hv : FP.dadd x y = v) (hr : Wp b l Z own nm bytes maxL ret R H k j pc' Ls (.double v :: st) Q) : Wp b l Z own nm bytes maxL ret R H k j pc Ls (.double y :: .double x :: st) Q := by
  obtain ⟨hd, rfl⟩ := hd
  exact Wp.step (fun p e s m args below meth c T L hx hZ hby hown X hH target ht => XS.daddS X.here hx rfl (hb hby hd) rfl hn hv ht) hr
theorem wp_ddiv {x y : UInt64} (v : UInt64) (hd : Dc bytes pc (.ddiv) 1 pc') (hn : Jvm.Free.Fl.NoNaN64 (FP.ddiv x y)) (hv : FP.ddiv x y = v) (hr : Wp b l Z own nm bytes maxL ret R H k j pc' Ls (.double v :: st) Q) : Wp b l Z own nm bytes maxL ret R H k j pc Ls (.double y :: .double x :: st) Q := by
  obtain ⟨hd, rfl⟩ := hd
  exact Wp.step (fun p e s m args below meth c T L hx hZ hby hown X hH target ht => XS.ddivS X.here hx rfl (hb hby hd) rfl hn hv ht) hr
theorem wp_dcmp {o : CmpOp} {x y : UInt64} (v : Int32) (hd : Dc bytes pc (.dcmp o) 1 pc') (hv : cmpValue (FP.dcmp x y) o = v) (hr : Wp b l Z own nm bytes maxL ret R H k j pc' Ls (.int v :: st) Q) : Wp b l Z own nm bytes maxL ret R H k j pc Ls (.double y :: .double x :: st) Q := by
  obtain ⟨hd, rfl⟩ := hd
  exact Wp.step (fun p e s m args below meth c T L hx hZ hby hown X hH target ht => XS.dcmpS X.here hx rfl (hb hby hd) rfl hv ht) hr
theorem wp_ldc2D {i : Nat} {v : UInt64} (hd : Dc bytes pc (.ldc2_w i) 3 pc') (w : (Cond.constantDouble own i v).before a0 Z = true) (hr : Wp b l Z own nm bytes maxL ret R H k j pc' Ls (.double v :: st) Q) : Wp b l Z own nm bytes maxL ret R H k j pc Ls st Q := by
  obtain ⟨hd, rfl⟩ := hd
  exact Wp.step (fun p e s m args below meth c T L hx hZ hby hown X hH target ht => X.ldc2DoubleC hx hown (mvT hZ w) (g := mkF m pc Ls st) rfl (hb hby hd) _ ht) hr
theorem wp_dreturn {x : UInt64} (hd : Dc bytes pc .dreturn 1 pc') (hr : ret = some .double) (hk : k ≤ R.cells) (hj : j ≤ R.slots) (hQ : Q (some (.double x)) H) : Wp b l Z own nm bytes maxL ret R H k j pc Ls (.double x :: st) Q :=
  fun p e s vm0 k0 m args below meth c T L hx hZ hS hkz hby hml hown hnm hret X N hH hB => ⟨T, (some (.double x)), L, k, j, vm0, k0, H, ⟨hS, hkz, fun _ => rfl⟩, X, ⟨hk, hj, Nat.le_refl _⟩, N, hH, fun h => by first | rfl | (rw [hr] at h; cases h), hQ, fun fs hl => retOut X hx (hret.trans hr) rfl (Or.inr (Or.inr (Or.inl ⟨rfl, rfl, x, rfl⟩))) (hb hby hd.1) hl⟩
end Own
def sg_1 : OSig := [("com/example/prim_canon/primcanon/compare/Difference", "byteNumber", "J"), ("com/example/prim_canon/primcanon/compare/Difference", "lineNumber", "J")]
theorem laid_sg_1 (l : Launch) (Z : State) (a0 : Array Value) (hw : ∀ d ∈ tables_1, d.before a0 Z = true) : ∀ f ∈ sg_1, Laid Z a0 "com/example/prim_canon/primcanon/compare/Difference" f.1 f.2.1 f.2.2 := all_cons (Or.inr (hw _ (List.mem_of_getElem? (i := 10) rfl))) (all_cons (Or.inr (hw _ (List.mem_of_getElem? (i := 12) rfl))) (all_nil))
theorem dfl_sg_1 : Dfl sg_1 [(.long (0 : Int64)), (.long (0 : Int64))] := ⟨⟨.long, by decide +kernel, rfl⟩, ⟨.long, by decide +kernel, rfl⟩, trivial⟩
def sg_2 : OSig := [("java/lang/Long", "value", "J")]
theorem laid_sg_2 (l : Launch) (Z : State) (a0 : Array Value) (hw : ∀ d ∈ tables_1, d.before a0 Z = true) : ∀ f ∈ sg_2, Laid Z a0 "java/lang/Long" f.1 f.2.1 f.2.2 := all_cons (Or.inr (hw _ (List.mem_of_getElem? (i := 45) rfl))) (all_nil)
theorem dfl_sg_2 : Dfl sg_2 [(.long (0 : Int64))] := ⟨⟨.long, by decide +kernel, rfl⟩, trivial⟩
theorem own_ci (x : Int64) (h1 : ¬ x < (-128 : Int64)) (h2 : ¬ (127 : Int64) < x) : ¬ ((x.toInt32 + (128 : Int32) < 0) ∨ 256 ≤ (x.toInt32 + (128 : Int32)).toNatClampNeg) ∧ (x.toInt32 + (128 : Int32)).toNatClampNeg < 256 := by
  have a1 := c_l2i x
  have a2 := c_iadd x.toInt32 128
  have a3 := rng32 x.toInt32
  have a4 := rng32 (x.toInt32 + (128 : Int32))
  simp only [Int64.lt_iff_toInt_lt, Int64.reduceToInt, Int32.reduceToInt] at h1 h2 a2
  simp only [Int32.lt_iff_toInt_lt, Int32.reduceToInt, Int32.toNatClampNeg]
  omega
theorem own_cache {args : Array Value} {s : State} {c : Jvm.Cond} {aC : Addr} {cl : Cell} (ht : (Term.static "java/lang/Long$LongCache" "cache" "[Ljava/lang/Long;").eval args s none [] s = some (.ref aC)) (h1 : s.arrayAt? aC = some cl) (hsz : cl.slots.size = 256)
    (hall : (Jvm.Cond.all (Term.static "java/lang/Long$LongCache" "cache" "[Ljava/lang/Long;") (Jvm.Cond.and (Jvm.Cond.exactly (Term.elem (Term.static "java/lang/Long$LongCache" "cache" "[Ljava/lang/Long;") (Term.index 0)) "java/lang/Long") c)).value args s none s [] = some true) : ∀ i, i < 256 → ∃ y, cl.slots[i]? = some (.ref y) ∧ Exa s s.heap y "java/lang/Long" := by
  intro i hi
  have q := Cond.all_elim ht h1 hall i (by omega)
  obtain ⟨q1, -⟩ := and_e q
  obtain ⟨y, ey⟩ := exa_v q1
  obtain ⟨a', j, cell, e1, e2, e3, e4, e5⟩ := Term.elem_spec ey
  have e1' : (Term.static "java/lang/Long$LongCache" "cache" "[Ljava/lang/Long;").eval args s none [] s = some (.ref a') := e1
  cases ht.symm.trans e1'
  cases h1.symm.trans e3
  have ej : j = Int32.ofNat i := by
    have e2' : (Term.index 0).eval args s none [i] s = some (.int (Int32.ofNat i)) := by simp [Term.eval]
    cases e2'.symm.trans e2; rfl
  subst ej
  rw [(nat_i32 (show i < 2 ^ 31 by omega)).1] at e5
  exact ⟨y, e5, exa_at ey q1⟩
theorem pn_1 : plainFor (⟨"com/example/prim_canon/primcanon/compare/Difference", "<init>", "(JJ)V"⟩ : MethodName) = true := by first | exact plainFor_of_name (by first | (simp [plainName, overriddenIn]; done) | decide +kernel) | decide +kernel
theorem D_prog_2_m1_0 : Dc prog_2_method_1_code 0 (.aload_n 0) 1 1 := ⟨by decide +kernel, rfl⟩
theorem D_prog_2_m1_1 : Dc prog_2_method_1_code 1 (.invokespecial 1) 3 4 := ⟨by decide +kernel, rfl⟩
theorem D_prog_2_m1_4 : Dc prog_2_method_1_code 4 (.aload_n 0) 1 5 := ⟨by decide +kernel, rfl⟩
theorem D_prog_2_m1_5 : Dc prog_2_method_1_code 5 (.lload_n 1) 1 6 := ⟨by decide +kernel, rfl⟩
theorem D_prog_2_m1_6 : Dc prog_2_method_1_code 6 (.putfield 7) 3 9 := ⟨by decide +kernel, rfl⟩
theorem D_prog_2_m1_9 : Dc prog_2_method_1_code 9 (.aload_n 0) 1 10 := ⟨by decide +kernel, rfl⟩
theorem D_prog_2_m1_10 : Dc prog_2_method_1_code 10 (.lload_n 3) 1 11 := ⟨by decide +kernel, rfl⟩
theorem D_prog_2_m1_11 : Dc prog_2_method_1_code 11 (.putfield 13) 3 14 := ⟨by decide +kernel, rfl⟩
theorem D_prog_2_m1_14 : Dc prog_2_method_1_code 14 (.return_) 1 15 := ⟨by decide +kernel, rfl⟩
def Q_c_df (o : Addr) (x y : Int64) (F : OH) : Option Value → OH → Prop := fun v H' => v = none ∧ H' = (o, oI "com/example/prim_canon/primcanon/compare/Difference" sg_1 [(.long x), (.long y)]) :: F
set_option maxRecDepth 65536 in
set_option maxHeartbeats 40000000 in
theorem c_df (l : Launch) (Z : State) (a0 : Array Value) (hw : ∀ d ∈ tables_1, d.before a0 Z = true) (o : Addr) (x y : Int64) (F : OH)  :
    Met l Z (⟨"com/example/prim_canon/primcanon/compare/Difference", "<init>", "(JJ)V"⟩ : MethodName) prog_2_method_1_code 5 none ({ frames := 1, cells := 0, slots := 0, locals := 12 } : Room) [(.ref o), (.long x), (.long y)] ((o, oI "com/example/prim_canon/primcanon/compare/Difference" sg_1 [(.long (0 : Int64)), (.long (0 : Int64))]) :: F) (Q_c_df o x y F) := by
  refine Met.of_wp (Ls := #[.val (.ref o), .val (.long x), .second, .val (.long y), .second]) pn_1 (fun m => (entry_loc m _ _).trans rfl) ?_
  show Wp none l Z "com/example/prim_canon/primcanon/compare/Difference" "<init>" prog_2_method_1_code 5 none ({ frames := 1, cells := 0, slots := 0, locals := 12 } : Room) ((o, oI "com/example/prim_canon/primcanon/compare/Difference" sg_1 [(.long (0 : Int64)), (.long (0 : Int64))]) :: F) 0 0 0 #[.val (.ref o), .val (.long x), .second, .val (.long y), .second] [] (Q_c_df o x y F)
  refine wp_aload_n D_prog_2_m1_0 rfl rfl ?_
  refine wp_initO D_prog_2_m1_1 (hw _ (List.mem_of_getElem? (i := 6) rfl)) (hw _ (List.mem_of_getElem? (i := 7) rfl)) (hw _ (List.mem_of_getElem? (i := 8) rfl)) rfl (Nat.le_of_ble_eq_true rfl) (Nat.le_of_ble_eq_true rfl) ?_
  refine wp_aload_n D_prog_2_m1_4 rfl rfl ?_
  refine wp_lload_n D_prog_2_m1_5 rfl ?_
  refine wp_putfield (i := 0) (fi := 0) (ty := .long) D_prog_2_m1_6 (hw _ (List.mem_of_getElem? (i := 9) rfl)) rfl rfl rfl (Or.inr ⟨(hw _ (List.mem_of_getElem? (i := 10) rfl)), rfl, rfl⟩) (hw _ (List.mem_of_getElem? (i := 1) rfl)) (by decide) rfl rfl ?_
  show Wp none l Z "com/example/prim_canon/primcanon/compare/Difference" "<init>" prog_2_method_1_code 5 none ({ frames := 1, cells := 0, slots := 0, locals := 12 } : Room) ((o, oI "com/example/prim_canon/primcanon/compare/Difference" sg_1 [(.long x), (.long (0 : Int64))]) :: F) 0 0 9 #[.val (.ref o), .val (.long x), .second, .val (.long y), .second] [] (Q_c_df o x y F)
  refine wp_aload_n D_prog_2_m1_9 rfl rfl ?_
  refine wp_lload_n D_prog_2_m1_10 rfl ?_
  refine wp_putfield (i := 0) (fi := 1) (ty := .long) D_prog_2_m1_11 (hw _ (List.mem_of_getElem? (i := 11) rfl)) rfl rfl rfl (Or.inr ⟨(hw _ (List.mem_of_getElem? (i := 12) rfl)), rfl, rfl⟩) (hw _ (List.mem_of_getElem? (i := 1) rfl)) (by decide) rfl rfl ?_
  show Wp none l Z "com/example/prim_canon/primcanon/compare/Difference" "<init>" prog_2_method_1_code 5 none ({ frames := 1, cells := 0, slots := 0, locals := 12 } : Room) ((o, oI "com/example/prim_canon/primcanon/compare/Difference" sg_1 [(.long x), (.long y)]) :: F) 0 0 14 #[.val (.ref o), .val (.long x), .second, .val (.long y), .second] [] (Q_c_df o x y F)
  refine wp_return D_prog_2_m1_14 rfl (by decide) (by decide) ?_
  exact ⟨rfl, rfl⟩
theorem pn_2 : plainFor (⟨"java/lang/Number", "<init>", "()V"⟩ : MethodName) = true := by first | exact plainFor_of_name (by first | (simp [plainName, overriddenIn]; done) | decide +kernel) | decide +kernel
theorem D_jdk_18_m1_0 : Dc jdk_18_method_1_code 0 (.aload_n 0) 1 1 := ⟨by decide +kernel, rfl⟩
theorem D_jdk_18_m1_1 : Dc jdk_18_method_1_code 1 (.invokespecial 1) 3 4 := ⟨by decide +kernel, rfl⟩
theorem D_jdk_18_m1_4 : Dc jdk_18_method_1_code 4 (.return_) 1 5 := ⟨by decide +kernel, rfl⟩
def Q_c_nb (o : Addr) (H : OH) : Option Value → OH → Prop := fun v H' => v = none ∧ H' = H
set_option maxRecDepth 65536 in
set_option maxHeartbeats 40000000 in
theorem c_nb (l : Launch) (Z : State) (a0 : Array Value) (hw : ∀ d ∈ tables_1, d.before a0 Z = true) (o : Addr) (H : OH) :
    Met l Z (⟨"java/lang/Number", "<init>", "()V"⟩ : MethodName) jdk_18_method_1_code 1 none ({ frames := 1, cells := 0, slots := 0, locals := 12 } : Room) [(.ref o)] H (Q_c_nb o H) := by
  refine Met.of_wp (Ls := #[.val (.ref o)]) pn_2 (fun m => (entry_loc m _ _).trans rfl) ?_
  show Wp none l Z "java/lang/Number" "<init>" jdk_18_method_1_code 1 none ({ frames := 1, cells := 0, slots := 0, locals := 12 } : Room) H 0 0 0 #[.val (.ref o)] [] (Q_c_nb o H)
  refine wp_aload_n D_jdk_18_m1_0 rfl rfl ?_
  refine wp_initO D_jdk_18_m1_1 (hw _ (List.mem_of_getElem? (i := 43) rfl)) (hw _ (List.mem_of_getElem? (i := 7) rfl)) (hw _ (List.mem_of_getElem? (i := 8) rfl)) rfl (Nat.le_of_ble_eq_true rfl) (Nat.le_of_ble_eq_true rfl) ?_
  refine wp_return D_jdk_18_m1_4 rfl (by decide) (by decide) ?_
  exact ⟨rfl, rfl⟩
theorem pd_1 : parseMethodDescriptor "(J)V" = some ⟨[.long], none⟩ := by decide +kernel
theorem pd_2 : parseMethodDescriptor "()V" = some ⟨[], none⟩ := by decide +kernel
theorem pn_3 : plainFor (⟨"java/lang/Long", "<init>", "(J)V"⟩ : MethodName) = true := by first | exact plainFor_of_name (by first | (simp [plainName, overriddenIn]; done) | decide +kernel) | decide +kernel
theorem D_jdk_35_m26_0 : Dc jdk_35_method_26_code 0 (.aload_n 0) 1 1 := ⟨by decide +kernel, rfl⟩
theorem D_jdk_35_m26_1 : Dc jdk_35_method_26_code 1 (.invokespecial 270) 3 4 := ⟨by decide +kernel, rfl⟩
theorem D_jdk_35_m26_4 : Dc jdk_35_method_26_code 4 (.aload_n 0) 1 5 := ⟨by decide +kernel, rfl⟩
theorem D_jdk_35_m26_5 : Dc jdk_35_method_26_code 5 (.lload_n 1) 1 6 := ⟨by decide +kernel, rfl⟩
theorem D_jdk_35_m26_6 : Dc jdk_35_method_26_code 6 (.putfield 273) 3 9 := ⟨by decide +kernel, rfl⟩
theorem D_jdk_35_m26_9 : Dc jdk_35_method_26_code 9 (.return_) 1 10 := ⟨by decide +kernel, rfl⟩
def Q_c_lg (o : Addr) (x : Int64) (F : OH) : Option Value → OH → Prop := fun v H' => v = none ∧ H' = (o, oI "java/lang/Long" sg_2 [(.long x)]) :: F
set_option maxRecDepth 65536 in
set_option maxHeartbeats 40000000 in
theorem c_lg (l : Launch) (Z : State) (a0 : Array Value) (hw : ∀ d ∈ tables_1, d.before a0 Z = true) (o : Addr) (x : Int64) (F : OH)  :
    Met l Z (⟨"java/lang/Long", "<init>", "(J)V"⟩ : MethodName) jdk_35_method_26_code 3 none ({ frames := 2, cells := 0, slots := 0, locals := 24 } : Room) [(.ref o), (.long x)] ((o, oI "java/lang/Long" sg_2 [(.long (0 : Int64))]) :: F) (Q_c_lg o x F) := by
  refine Met.of_wp (Ls := #[.val (.ref o), .val (.long x), .second]) pn_3 (fun m => (entry_loc m _ _).trans rfl) ?_
  show Wp none l Z "java/lang/Long" "<init>" jdk_35_method_26_code 3 none ({ frames := 2, cells := 0, slots := 0, locals := 24 } : Room) ((o, oI "java/lang/Long" sg_2 [(.long (0 : Int64))]) :: F) 0 0 0 #[.val (.ref o), .val (.long x), .second] [] (Q_c_lg o x F)
  refine wp_aload_n D_jdk_35_m26_0 rfl rfl ?_
  refine wp_init (c_nb l Z a0 hw o ((o, oI "java/lang/Long" sg_2 [(.long (0 : Int64))]) :: F)) D_jdk_35_m26_1 rfl (hw _ (List.mem_of_getElem? (i := 37) rfl)) (hw _ (List.mem_of_getElem? (i := 38) rfl)) (hw _ (List.mem_of_getElem? (i := 41) rfl)) (hw _ (List.mem_of_getElem? (i := 42) rfl)) (by decide) pd_2 rfl rfl rfl (Nat.le_of_ble_eq_true rfl) (Nat.le_of_ble_eq_true rfl) (Nat.le_of_ble_eq_true rfl) (Nat.le_of_ble_eq_true rfl) ?_
  rintro _ _ ⟨rfl, rfl⟩
  show Wp none l Z "java/lang/Long" "<init>" jdk_35_method_26_code 3 none ({ frames := 2, cells := 0, slots := 0, locals := 24 } : Room) ((o, oI "java/lang/Long" sg_2 [(.long (0 : Int64))]) :: F) 0 0 4 #[.val (.ref o), .val (.long x), .second] [] (Q_c_lg o x F)
  refine wp_aload_n D_jdk_35_m26_4 rfl rfl ?_
  refine wp_lload_n D_jdk_35_m26_5 rfl ?_
  refine wp_putfield (i := 0) (fi := 0) (ty := .long) D_jdk_35_m26_6 (hw _ (List.mem_of_getElem? (i := 44) rfl)) rfl rfl rfl (Or.inr ⟨(hw _ (List.mem_of_getElem? (i := 45) rfl)), rfl, rfl⟩) (hw _ (List.mem_of_getElem? (i := 32) rfl)) (by decide) rfl rfl ?_
  show Wp none l Z "java/lang/Long" "<init>" jdk_35_method_26_code 3 none ({ frames := 2, cells := 0, slots := 0, locals := 24 } : Room) ((o, oI "java/lang/Long" sg_2 [(.long x)]) :: F) 0 0 9 #[.val (.ref o), .val (.long x), .second] [] (Q_c_lg o x F)
  refine wp_return D_jdk_35_m26_9 rfl (by decide) (by decide) ?_
  exact ⟨rfl, rfl⟩
def Q_c_val (Z : State) (x : Int64) (F : OH) : Option Value → OH → Prop := fun v H' => ∃ a, v = some (.ref a) ∧ ((H' = F ∧ Exa Z Z.heap a "java/lang/Long") ∨ H' = (a, oI "java/lang/Long" sg_2 [(.long x)]) :: F)
theorem pn_4 : plainFor (⟨"java/lang/Long", "valueOf", "(J)Ljava/lang/Long;"⟩ : MethodName) = true := by first | exact plainFor_of_name (by first | (simp [plainName, overriddenIn]; done) | decide +kernel) | decide +kernel
theorem D_jdk_35_m24_0 : Dc jdk_35_method_24_code 0 (.sipush 128) 3 3 := ⟨by decide +kernel, rfl⟩
theorem D_jdk_35_m24_3 : Dc jdk_35_method_24_code 3 (.istore_n 2) 1 4 := ⟨by decide +kernel, rfl⟩
theorem D_jdk_35_m24_4 : Dc jdk_35_method_24_code 4 (.lload_n 0) 1 5 := ⟨by decide +kernel, rfl⟩
theorem D_jdk_35_m24_5 : Dc jdk_35_method_24_code 5 (.ldc2_w 230) 3 8 := ⟨by decide +kernel, rfl⟩
theorem D_jdk_35_m24_8 : Dc jdk_35_method_24_code 8 (.lcmp) 1 9 := ⟨by decide +kernel, rfl⟩
theorem D_jdk_35_m24_9 : Dc jdk_35_method_24_code 9 (.ifCond .lt 22) 3 12 := ⟨by decide +kernel, rfl⟩
theorem D_jdk_35_m24_12 : Dc jdk_35_method_24_code 12 (.lload_n 0) 1 13 := ⟨by decide +kernel, rfl⟩
theorem D_jdk_35_m24_13 : Dc jdk_35_method_24_code 13 (.ldc2_w 232) 3 16 := ⟨by decide +kernel, rfl⟩
theorem D_jdk_35_m24_16 : Dc jdk_35_method_24_code 16 (.lcmp) 1 17 := ⟨by decide +kernel, rfl⟩
theorem D_jdk_35_m24_17 : Dc jdk_35_method_24_code 17 (.ifCond .gt 14) 3 20 := ⟨by decide +kernel, rfl⟩
theorem D_jdk_35_m24_20 : Dc jdk_35_method_24_code 20 (.getstatic 234) 3 23 := ⟨by decide +kernel, rfl⟩
theorem D_jdk_35_m24_23 : Dc jdk_35_method_24_code 23 (.lload_n 0) 1 24 := ⟨by decide +kernel, rfl⟩
theorem D_jdk_35_m24_24 : Dc jdk_35_method_24_code 24 (.l2i) 1 25 := ⟨by decide +kernel, rfl⟩
theorem D_jdk_35_m24_25 : Dc jdk_35_method_24_code 25 (.sipush 128) 3 28 := ⟨by decide +kernel, rfl⟩
theorem D_jdk_35_m24_28 : Dc jdk_35_method_24_code 28 (.iadd) 1 29 := ⟨by decide +kernel, rfl⟩
theorem D_jdk_35_m24_29 : Dc jdk_35_method_24_code 29 (.aaload) 1 30 := ⟨by decide +kernel, rfl⟩
theorem D_jdk_35_m24_30 : Dc jdk_35_method_24_code 30 (.areturn) 1 31 := ⟨by decide +kernel, rfl⟩
theorem D_jdk_35_m24_31 : Dc jdk_35_method_24_code 31 (.new 1) 3 34 := ⟨by decide +kernel, rfl⟩
theorem D_jdk_35_m24_34 : Dc jdk_35_method_24_code 34 (.dup) 1 35 := ⟨by decide +kernel, rfl⟩
theorem D_jdk_35_m24_35 : Dc jdk_35_method_24_code 35 (.lload_n 0) 1 36 := ⟨by decide +kernel, rfl⟩
theorem D_jdk_35_m24_36 : Dc jdk_35_method_24_code 36 (.invokespecial 240) 3 39 := ⟨by decide +kernel, rfl⟩
theorem D_jdk_35_m24_39 : Dc jdk_35_method_24_code 39 (.areturn) 1 40 := ⟨by decide +kernel, rfl⟩
set_option maxRecDepth 65536 in
set_option maxHeartbeats 40000000 in
theorem c_val (l : Launch) (Z : State) (a0 : Array Value) (hw : ∀ d ∈ tables_1, d.before a0 Z = true) (x : Int64) (aC : Addr) (cl : Cell) (F : OH) (S_C : Sta Z Z.heap "java/lang/Long$LongCache" "cache" "[Ljava/lang/Long;" (.ref aC)) (A_C : Arr Z Z.heap aC cl (.object "java/lang/Long")) (hsz : cl.slots.size = 256) (hC : ∀ i, i < 256 → ∃ y, cl.slots[i]? = some (.ref y) ∧ Exa Z Z.heap y "java/lang/Long") :
    Met l Z (⟨"java/lang/Long", "valueOf", "(J)Ljava/lang/Long;"⟩ : MethodName) jdk_35_method_24_code 3 (some (.object "java/lang/Long")) ({ frames := 3, cells := 1, slots := 1, locals := 41 } : Room) [(.long x)] F (Q_c_val Z x F) := by
  refine Met.of_wp (Ls := #[.val (.long x), .second, .unset]) pn_4 (fun m => by first | rfl | (simp [entryFrame, mkF, argsToLocals, Value.category]; done)) ?_
  show Wp none l Z "java/lang/Long" "valueOf" jdk_35_method_24_code 3 (some (.object "java/lang/Long")) ({ frames := 3, cells := 1, slots := 1, locals := 41 } : Room) F 0 0 0 #[.val (.long x), .second, .unset] [] (Q_c_val Z x F)
  refine wp_sipush 128 D_jdk_35_m24_0 (by decide) ?_
  refine wp_istore_n #[.val (.long x), .second, .val (.int (128 : Int32))] D_jdk_35_m24_3 rfl ?_
  refine wp_lload_n D_jdk_35_m24_4 rfl ?_
  refine wp_ldc2J D_jdk_35_m24_5 (hw _ (List.mem_of_getElem? (i := 17) rfl)) ?_
  refine wp_lcmp_lt D_jdk_35_m24_8 D_jdk_35_m24_9 (pc'' := 31) ⟨by decide, by decide⟩ (fun h1 => ?_) (fun h1 => ?_)
  · skip
    refine wp_new sg_2 [(.long (0 : Int64))] D_jdk_35_m24_31 (hw _ (List.mem_of_getElem? (i := 31) rfl)) (hw _ (List.mem_of_getElem? (i := 32) rfl)) (hw _ (List.mem_of_getElem? (i := 15) rfl)) (laid_sg_2 l Z a0 hw) (by decide) dfl_sg_2 (by decide) (by decide) ?_
    intro a2
    show Wp none l Z "java/lang/Long" "valueOf" jdk_35_method_24_code 3 (some (.object "java/lang/Long")) ({ frames := 3, cells := 1, slots := 1, locals := 41 } : Room) ((a2, oI "java/lang/Long" sg_2 [(.long (0 : Int64))]) :: F) 1 1 34 #[.val (.long x), .second, .val (.int (128 : Int32))] [(.ref a2)] (Q_c_val Z x F)
    refine wp_dup D_jdk_35_m24_34 rfl ?_
    refine wp_lload_n D_jdk_35_m24_35 rfl ?_
    refine wp_init (c_lg l Z a0 hw a2 x F) D_jdk_35_m24_36 rfl (hw _ (List.mem_of_getElem? (i := 33) rfl)) (hw _ (List.mem_of_getElem? (i := 34) rfl)) (hw _ (List.mem_of_getElem? (i := 15) rfl)) (hw _ (List.mem_of_getElem? (i := 36) rfl)) (by decide) pd_1 rfl rfl rfl (Nat.le_of_ble_eq_true rfl) (Nat.le_of_ble_eq_true rfl) (Nat.le_of_ble_eq_true rfl) (Nat.le_of_ble_eq_true rfl) ?_
    rintro _ _ ⟨rfl, rfl⟩
    show Wp none l Z "java/lang/Long" "valueOf" jdk_35_method_24_code 3 (some (.object "java/lang/Long")) ({ frames := 3, cells := 1, slots := 1, locals := 41 } : Room) ((a2, oI "java/lang/Long" sg_2 [(.long x)]) :: F) 1 1 39 #[.val (.long x), .second, .val (.int (128 : Int32))] [(.ref a2)] (Q_c_val Z x F)
    refine wp_areturn D_jdk_35_m24_39 rfl rfl rfl rfl (by decide) (by decide) ?_
    exact ⟨_, rfl, Or.inr rfl⟩
  · skip
    refine wp_lload_n D_jdk_35_m24_12 rfl ?_
    refine wp_ldc2J D_jdk_35_m24_13 (hw _ (List.mem_of_getElem? (i := 18) rfl)) ?_
    refine wp_lcmp_gt D_jdk_35_m24_16 D_jdk_35_m24_17 (pc'' := 31) ⟨by decide, by decide⟩ (fun h3 => ?_) (fun h3 => ?_)
    · skip
      refine wp_new sg_2 [(.long (0 : Int64))] D_jdk_35_m24_31 (hw _ (List.mem_of_getElem? (i := 31) rfl)) (hw _ (List.mem_of_getElem? (i := 32) rfl)) (hw _ (List.mem_of_getElem? (i := 15) rfl)) (laid_sg_2 l Z a0 hw) (by decide) dfl_sg_2 (by decide) (by decide) ?_
      intro a4
      show Wp none l Z "java/lang/Long" "valueOf" jdk_35_method_24_code 3 (some (.object "java/lang/Long")) ({ frames := 3, cells := 1, slots := 1, locals := 41 } : Room) ((a4, oI "java/lang/Long" sg_2 [(.long (0 : Int64))]) :: F) 1 1 34 #[.val (.long x), .second, .val (.int (128 : Int32))] [(.ref a4)] (Q_c_val Z x F)
      refine wp_dup D_jdk_35_m24_34 rfl ?_
      refine wp_lload_n D_jdk_35_m24_35 rfl ?_
      refine wp_init (c_lg l Z a0 hw a4 x F) D_jdk_35_m24_36 rfl (hw _ (List.mem_of_getElem? (i := 33) rfl)) (hw _ (List.mem_of_getElem? (i := 34) rfl)) (hw _ (List.mem_of_getElem? (i := 15) rfl)) (hw _ (List.mem_of_getElem? (i := 36) rfl)) (by decide) pd_1 rfl rfl rfl (Nat.le_of_ble_eq_true rfl) (Nat.le_of_ble_eq_true rfl) (Nat.le_of_ble_eq_true rfl) (Nat.le_of_ble_eq_true rfl) ?_
      rintro _ _ ⟨rfl, rfl⟩
      show Wp none l Z "java/lang/Long" "valueOf" jdk_35_method_24_code 3 (some (.object "java/lang/Long")) ({ frames := 3, cells := 1, slots := 1, locals := 41 } : Room) ((a4, oI "java/lang/Long" sg_2 [(.long x)]) :: F) 1 1 39 #[.val (.long x), .second, .val (.int (128 : Int32))] [(.ref a4)] (Q_c_val Z x F)
      refine wp_areturn D_jdk_35_m24_39 rfl rfl rfl rfl (by decide) (by decide) ?_
      exact ⟨_, rfl, Or.inr rfl⟩
    · skip
      refine wp_getstatic D_jdk_35_m24_20 (hw _ (List.mem_of_getElem? (i := 19) rfl)) S_C ?_
      refine wp_lload_n D_jdk_35_m24_23 rfl ?_
      refine wp_l2i D_jdk_35_m24_24 ?_
      refine wp_sipush 128 D_jdk_35_m24_25 (by decide) ?_
      refine wp_iadd D_jdk_35_m24_28 ?_
      obtain ⟨hi1, hi2⟩ := own_ci x h1 h3
      obtain ⟨y5, he, hx⟩ := hC _ hi2
      refine wp_aaload_old D_jdk_35_m24_29 A_C rfl (by rw [hsz]; exact hi1) he ?_
      refine wp_areturn D_jdk_35_m24_30 rfl rfl rfl rfl (by decide) (by decide) ?_
      exact ⟨_, rfl, Or.inl ⟨rfl, hx⟩⟩
theorem pn_5 : plainFor (⟨"com/example/prim_canon/primcanon/compare/Difference", "equals", "(Ljava/lang/Object;)Z"⟩ : MethodName) = true := by first | exact plainFor_of_name (by first | (simp [plainName, overriddenIn]; done) | decide +kernel) | decide +kernel
theorem D_prog_2_m4_0 : Dc prog_2_method_4_code 0 (.aload_n 1) 1 1 := ⟨by decide +kernel, rfl⟩
theorem D_prog_2_m4_1 : Dc prog_2_method_4_code 1 (.instanceof 8) 3 4 := ⟨by decide +kernel, rfl⟩
theorem D_prog_2_m4_4 : Dc prog_2_method_4_code 4 (.ifCond .eq 37) 3 7 := ⟨by decide +kernel, rfl⟩
theorem D_prog_2_m4_7 : Dc prog_2_method_4_code 7 (.aload_n 1) 1 8 := ⟨by decide +kernel, rfl⟩
theorem D_prog_2_m4_8 : Dc prog_2_method_4_code 8 (.checkcast 8) 3 11 := ⟨by decide +kernel, rfl⟩
theorem D_prog_2_m4_11 : Dc prog_2_method_4_code 11 (.getfield 7) 3 14 := ⟨by decide +kernel, rfl⟩
theorem D_prog_2_m4_14 : Dc prog_2_method_4_code 14 (.aload_n 0) 1 15 := ⟨by decide +kernel, rfl⟩
theorem D_prog_2_m4_15 : Dc prog_2_method_4_code 15 (.getfield 7) 3 18 := ⟨by decide +kernel, rfl⟩
theorem D_prog_2_m4_18 : Dc prog_2_method_4_code 18 (.lcmp) 1 19 := ⟨by decide +kernel, rfl⟩
theorem D_prog_2_m4_19 : Dc prog_2_method_4_code 19 (.ifCond .ne 22) 3 22 := ⟨by decide +kernel, rfl⟩
theorem D_prog_2_m4_22 : Dc prog_2_method_4_code 22 (.aload_n 1) 1 23 := ⟨by decide +kernel, rfl⟩
theorem D_prog_2_m4_23 : Dc prog_2_method_4_code 23 (.checkcast 8) 3 26 := ⟨by decide +kernel, rfl⟩
theorem D_prog_2_m4_26 : Dc prog_2_method_4_code 26 (.getfield 13) 3 29 := ⟨by decide +kernel, rfl⟩
theorem D_prog_2_m4_29 : Dc prog_2_method_4_code 29 (.aload_n 0) 1 30 := ⟨by decide +kernel, rfl⟩
theorem D_prog_2_m4_30 : Dc prog_2_method_4_code 30 (.getfield 13) 3 33 := ⟨by decide +kernel, rfl⟩
theorem D_prog_2_m4_33 : Dc prog_2_method_4_code 33 (.lcmp) 1 34 := ⟨by decide +kernel, rfl⟩
theorem D_prog_2_m4_34 : Dc prog_2_method_4_code 34 (.ifCond .ne 7) 3 37 := ⟨by decide +kernel, rfl⟩
theorem D_prog_2_m4_37 : Dc prog_2_method_4_code 37 (.iconst 1) 1 38 := ⟨by decide +kernel, rfl⟩
theorem D_prog_2_m4_38 : Dc prog_2_method_4_code 38 (.goto 4) 3 41 := ⟨by decide +kernel, rfl⟩
theorem D_prog_2_m4_41 : Dc prog_2_method_4_code 41 (.iconst 0) 1 42 := ⟨by decide +kernel, rfl⟩
theorem D_prog_2_m4_42 : Dc prog_2_method_4_code 42 (.ireturn) 1 43 := ⟨by decide +kernel, rfl⟩
def Q_c_eq (o p : Addr) (x y x2 y2 : Int64) (F : OH) : Option Value → OH → Prop := fun v H' => v = some (.int (if x = x2 ∧ y = y2 then 1 else 0)) ∧ H' = (o, oI "com/example/prim_canon/primcanon/compare/Difference" sg_1 [(.long x), (.long y)]) :: (p, oI "com/example/prim_canon/primcanon/compare/Difference" sg_1 [(.long x2), (.long y2)]) :: F
set_option maxRecDepth 65536 in
set_option maxHeartbeats 40000000 in
theorem c_eq (l : Launch) (Z : State) (a0 : Array Value) (hw : ∀ d ∈ tables_1, d.before a0 Z = true) (o p : Addr) (x y x2 y2 : Int64) (F : OH)  :
    Met l Z (⟨"com/example/prim_canon/primcanon/compare/Difference", "equals", "(Ljava/lang/Object;)Z"⟩ : MethodName) prog_2_method_4_code 2 (some .boolean) ({ frames := 0, cells := 0, slots := 0, locals := 0 } : Room) [(.ref o), (.ref p)] ((o, oI "com/example/prim_canon/primcanon/compare/Difference" sg_1 [(.long x), (.long y)]) :: (p, oI "com/example/prim_canon/primcanon/compare/Difference" sg_1 [(.long x2), (.long y2)]) :: F) (Q_c_eq o p x y x2 y2 F) := by
  refine Met.of_wp (Ls := #[.val (.ref o), .val (.ref p)]) pn_5 (fun m => (entry_loc m _ _).trans rfl) ?_
  show Wp none l Z "com/example/prim_canon/primcanon/compare/Difference" "equals" prog_2_method_4_code 2 (some .boolean) ({ frames := 0, cells := 0, slots := 0, locals := 0 } : Room) ((o, oI "com/example/prim_canon/primcanon/compare/Difference" sg_1 [(.long x), (.long y)]) :: (p, oI "com/example/prim_canon/primcanon/compare/Difference" sg_1 [(.long x2), (.long y2)]) :: F) 0 0 0 #[.val (.ref o), .val (.ref p)] [] (Q_c_eq o p x y x2 y2 F)
  refine wp_aload_n D_prog_2_m4_0 rfl rfl ?_
  refine wp_instY D_prog_2_m4_1 (hw _ (List.mem_of_getElem? (i := 26) rfl)) (fun h P => Ins.self (exa_new (i := 1) rfl h P)) ?_
  show Wp none l Z "com/example/prim_canon/primcanon/compare/Difference" "equals" prog_2_method_4_code 2 (some .boolean) ({ frames := 0, cells := 0, slots := 0, locals := 0 } : Room) ((o, oI "com/example/prim_canon/primcanon/compare/Difference" sg_1 [(.long x), (.long y)]) :: (p, oI "com/example/prim_canon/primcanon/compare/Difference" sg_1 [(.long x2), (.long y2)]) :: F) 0 0 4 #[.val (.ref o), .val (.ref p)] [(.int (1 : Int32))] (Q_c_eq o p x y x2 y2 F)
  refine wp_if_eq D_prog_2_m4_4 (pc'' := 41) ⟨by decide, by decide⟩ (fun h1 => by exact absurd h1 (by decide)) (fun h1 => ?_)
  refine wp_aload_n D_prog_2_m4_7 rfl rfl ?_
  refine wp_cast D_prog_2_m4_8 (hw _ (List.mem_of_getElem? (i := 26) rfl)) (fun h P => Ins.self (exa_new (i := 1) rfl h P)) ?_
  refine wp_getfield D_prog_2_m4_11 (hw _ (List.mem_of_getElem? (i := 9) rfl)) (fld_new (i := 1) (fi := 0) rfl rfl rfl) ?_
  refine wp_aload_n D_prog_2_m4_14 rfl rfl ?_
  refine wp_getfield D_prog_2_m4_15 (hw _ (List.mem_of_getElem? (i := 9) rfl)) (fld_new (i := 0) (fi := 0) rfl rfl rfl) ?_
  refine wp_lcmp_ne D_prog_2_m4_18 D_prog_2_m4_19 (pc'' := 41) ⟨by decide, by decide⟩ (fun h2 => ?_) (fun h2 => ?_)
  · skip
    refine wp_iconst 0 D_prog_2_m4_41 (by decide) ?_
    refine wp_ireturnN D_prog_2_m4_42 rfl (by simp) (by decide) (by decide) ?_
    refine ⟨?_, rfl⟩
    show some (Value.int _) = some (Value.int (if x = x2 ∧ y = y2 then 1 else 0))
    rw [if_neg (by clear hw; rintro ⟨rfl, rfl⟩; simp_all)]; rfl
  · skip
    refine wp_aload_n D_prog_2_m4_22 rfl rfl ?_
    refine wp_cast D_prog_2_m4_23 (hw _ (List.mem_of_getElem? (i := 26) rfl)) (fun h P => Ins.self (exa_new (i := 1) rfl h P)) ?_
    refine wp_getfield D_prog_2_m4_26 (hw _ (List.mem_of_getElem? (i := 11) rfl)) (fld_new (i := 1) (fi := 1) rfl rfl rfl) ?_
    refine wp_aload_n D_prog_2_m4_29 rfl rfl ?_
    refine wp_getfield D_prog_2_m4_30 (hw _ (List.mem_of_getElem? (i := 11) rfl)) (fld_new (i := 0) (fi := 1) rfl rfl rfl) ?_
    refine wp_lcmp_ne D_prog_2_m4_33 D_prog_2_m4_34 (pc'' := 41) ⟨by decide, by decide⟩ (fun h3 => ?_) (fun h3 => ?_)
    · skip
      refine wp_iconst 0 D_prog_2_m4_41 (by decide) ?_
      refine wp_ireturnN D_prog_2_m4_42 rfl (by simp) (by decide) (by decide) ?_
      refine ⟨?_, rfl⟩
      show some (Value.int _) = some (Value.int (if x = x2 ∧ y = y2 then 1 else 0))
      rw [if_neg (by clear hw; rintro ⟨rfl, rfl⟩; simp_all)]; rfl
    · skip
      refine wp_iconst 1 D_prog_2_m4_37 (by decide) ?_
      refine wp_goto D_prog_2_m4_38 (pc'' := 42) ⟨by decide, by decide⟩ ?_
      refine wp_ireturnN D_prog_2_m4_42 rfl (by simp) (by decide) (by decide) ?_
      refine ⟨?_, rfl⟩
      show some (Value.int _) = some (Value.int (if x = x2 ∧ y = y2 then 1 else 0))
      rw [if_pos (by clear hw; simp_all)]; rfl
def Q_c_eqs (o : Addr) (x y : Int64) (F : OH) : Option Value → OH → Prop := fun v H' => v = some (.int 1) ∧ H' = (o, oI "com/example/prim_canon/primcanon/compare/Difference" sg_1 [(.long x), (.long y)]) :: F
set_option maxRecDepth 65536 in
set_option maxHeartbeats 40000000 in
theorem c_eqs (l : Launch) (Z : State) (a0 : Array Value) (hw : ∀ d ∈ tables_1, d.before a0 Z = true) (o : Addr) (x y : Int64) (F : OH)  :
    Met l Z (⟨"com/example/prim_canon/primcanon/compare/Difference", "equals", "(Ljava/lang/Object;)Z"⟩ : MethodName) prog_2_method_4_code 2 (some .boolean) ({ frames := 0, cells := 0, slots := 0, locals := 0 } : Room) [(.ref o), (.ref o)] ((o, oI "com/example/prim_canon/primcanon/compare/Difference" sg_1 [(.long x), (.long y)]) :: F) (Q_c_eqs o x y F) := by
  refine Met.of_wp (Ls := #[.val (.ref o), .val (.ref o)]) pn_5 (fun m => (entry_loc m _ _).trans rfl) ?_
  show Wp none l Z "com/example/prim_canon/primcanon/compare/Difference" "equals" prog_2_method_4_code 2 (some .boolean) ({ frames := 0, cells := 0, slots := 0, locals := 0 } : Room) ((o, oI "com/example/prim_canon/primcanon/compare/Difference" sg_1 [(.long x), (.long y)]) :: F) 0 0 0 #[.val (.ref o), .val (.ref o)] [] (Q_c_eqs o x y F)
  refine wp_aload_n D_prog_2_m4_0 rfl rfl ?_
  refine wp_instY D_prog_2_m4_1 (hw _ (List.mem_of_getElem? (i := 26) rfl)) (fun h P => Ins.self (exa_new (i := 0) rfl h P)) ?_
  show Wp none l Z "com/example/prim_canon/primcanon/compare/Difference" "equals" prog_2_method_4_code 2 (some .boolean) ({ frames := 0, cells := 0, slots := 0, locals := 0 } : Room) ((o, oI "com/example/prim_canon/primcanon/compare/Difference" sg_1 [(.long x), (.long y)]) :: F) 0 0 4 #[.val (.ref o), .val (.ref o)] [(.int (1 : Int32))] (Q_c_eqs o x y F)
  refine wp_if_eq D_prog_2_m4_4 (pc'' := 41) ⟨by decide, by decide⟩ (fun h1 => by exact absurd h1 (by decide)) (fun h1 => ?_)
  refine wp_aload_n D_prog_2_m4_7 rfl rfl ?_
  refine wp_cast D_prog_2_m4_8 (hw _ (List.mem_of_getElem? (i := 26) rfl)) (fun h P => Ins.self (exa_new (i := 0) rfl h P)) ?_
  refine wp_getfield D_prog_2_m4_11 (hw _ (List.mem_of_getElem? (i := 9) rfl)) (fld_new (i := 0) (fi := 0) rfl rfl rfl) ?_
  refine wp_aload_n D_prog_2_m4_14 rfl rfl ?_
  refine wp_getfield D_prog_2_m4_15 (hw _ (List.mem_of_getElem? (i := 9) rfl)) (fld_new (i := 0) (fi := 0) rfl rfl rfl) ?_
  refine wp_lcmp_ne D_prog_2_m4_18 D_prog_2_m4_19 (pc'' := 41) ⟨by decide, by decide⟩ (fun h2 => by exact absurd rfl h2) (fun h2 => ?_)
  refine wp_aload_n D_prog_2_m4_22 rfl rfl ?_
  refine wp_cast D_prog_2_m4_23 (hw _ (List.mem_of_getElem? (i := 26) rfl)) (fun h P => Ins.self (exa_new (i := 0) rfl h P)) ?_
  refine wp_getfield D_prog_2_m4_26 (hw _ (List.mem_of_getElem? (i := 11) rfl)) (fld_new (i := 0) (fi := 1) rfl rfl rfl) ?_
  refine wp_aload_n D_prog_2_m4_29 rfl rfl ?_
  refine wp_getfield D_prog_2_m4_30 (hw _ (List.mem_of_getElem? (i := 11) rfl)) (fld_new (i := 0) (fi := 1) rfl rfl rfl) ?_
  refine wp_lcmp_ne D_prog_2_m4_33 D_prog_2_m4_34 (pc'' := 41) ⟨by decide, by decide⟩ (fun h3 => by exact absurd rfl h3) (fun h3 => ?_)
  refine wp_iconst 1 D_prog_2_m4_37 (by decide) ?_
  refine wp_goto D_prog_2_m4_38 (pc'' := 42) ⟨by decide, by decide⟩ ?_
  refine wp_ireturnN D_prog_2_m4_42 rfl (by simp) (by decide) (by decide) ?_
  exact ⟨rfl, rfl⟩
def Q_c_eqn (o : Addr) (H : OH) : Option Value → OH → Prop := fun v H' => v = some (.int 0) ∧ H' = H
set_option maxRecDepth 65536 in
set_option maxHeartbeats 40000000 in
theorem c_eqn (l : Launch) (Z : State) (a0 : Array Value) (hw : ∀ d ∈ tables_1, d.before a0 Z = true) (o : Addr) (H : OH) :
    Met l Z (⟨"com/example/prim_canon/primcanon/compare/Difference", "equals", "(Ljava/lang/Object;)Z"⟩ : MethodName) prog_2_method_4_code 2 (some .boolean) ({ frames := 0, cells := 0, slots := 0, locals := 0 } : Room) [(.ref o), (.null)] H (Q_c_eqn o H) := by
  refine Met.of_wp (Ls := #[.val (.ref o), .val (.null)]) pn_5 (fun m => (entry_loc m _ _).trans rfl) ?_
  show Wp none l Z "com/example/prim_canon/primcanon/compare/Difference" "equals" prog_2_method_4_code 2 (some .boolean) ({ frames := 0, cells := 0, slots := 0, locals := 0 } : Room) H 0 0 0 #[.val (.ref o), .val (.null)] [] (Q_c_eqn o H)
  refine wp_aload_n D_prog_2_m4_0 rfl rfl ?_
  refine wp_instNull D_prog_2_m4_1 ?_
  refine wp_if_eq D_prog_2_m4_4 (pc'' := 41) ⟨by decide, by decide⟩ (fun h1 => ?_) (fun h1 => by exact absurd h1 (by decide))
  refine wp_iconst 0 D_prog_2_m4_41 (by decide) ?_
  refine wp_ireturnN D_prog_2_m4_42 rfl (by simp) (by decide) (by decide) ?_
  exact ⟨rfl, rfl⟩
def Q_c_eql (o p : Addr) (H : OH) : Option Value → OH → Prop := fun v H' => v = some (.int 0) ∧ H' = H
set_option maxRecDepth 65536 in
set_option maxHeartbeats 40000000 in
theorem c_eql (l : Launch) (Z : State) (a0 : Array Value) (hw : ∀ d ∈ tables_1, d.before a0 Z = true) (o p : Addr) (H : OH) (hE : ExaAt Z H p "java/lang/Long") (hno : ∃ c t, Z.vm.findClass "java/lang/Long" = some c ∧ Z.vm.findClass "com/example/prim_canon/primcanon/compare/Difference" = some t ∧ Z.vm.assignable c t = false):
    Met l Z (⟨"com/example/prim_canon/primcanon/compare/Difference", "equals", "(Ljava/lang/Object;)Z"⟩ : MethodName) prog_2_method_4_code 2 (some .boolean) ({ frames := 0, cells := 0, slots := 0, locals := 0 } : Room) [(.ref o), (.ref p)] H (Q_c_eql o p H) := by
  refine Met.of_wp (Ls := #[.val (.ref o), .val (.ref p)]) pn_5 (fun m => (entry_loc m _ _).trans rfl) ?_
  show Wp none l Z "com/example/prim_canon/primcanon/compare/Difference" "equals" prog_2_method_4_code 2 (some .boolean) ({ frames := 0, cells := 0, slots := 0, locals := 0 } : Room) H 0 0 0 #[.val (.ref o), .val (.ref p)] [] (Q_c_eql o p H)
  refine wp_aload_n D_prog_2_m4_0 rfl rfl ?_
  refine wp_instN D_prog_2_m4_1 (hw _ (List.mem_of_getElem? (i := 26) rfl)) hE hno ?_
  show Wp none l Z "com/example/prim_canon/primcanon/compare/Difference" "equals" prog_2_method_4_code 2 (some .boolean) ({ frames := 0, cells := 0, slots := 0, locals := 0 } : Room) H 0 0 4 #[.val (.ref o), .val (.ref p)] [(.int (0 : Int32))] (Q_c_eql o p H)
  refine wp_if_eq D_prog_2_m4_4 (pc'' := 41) ⟨by decide, by decide⟩ (fun h1 => ?_) (fun h1 => by exact absurd h1 (by decide))
  refine wp_iconst 0 D_prog_2_m4_41 (by decide) ?_
  refine wp_ireturnN D_prog_2_m4_42 rfl (by simp) (by decide) (by decide) ?_
  exact ⟨rfl, rfl⟩
theorem pd_3 : parseMethodDescriptor "(JJ)V" = some ⟨[.long, .long], none⟩ := by decide +kernel
theorem pd_4 : parseMethodDescriptor "(J)Ljava/lang/Long;" = some ⟨[.long], (some (.object "java/lang/Long"))⟩ := by decide +kernel
theorem pd_5 : parseMethodDescriptor "(Ljava/lang/Object;)Z" = some ⟨[(.object "java/lang/Object")], (some .boolean)⟩ := by decide +kernel
theorem pn_6 : plainFor (⟨"com/example/prim_canon/primcanon/compare/DifferenceEqualsPinLaw", "law", "(JJJJI)Z"⟩ : MethodName) = true := by first | exact plainFor_of_name (by first | (simp [plainName, overriddenIn]; done) | decide +kernel) | decide +kernel
def Q_law : Option Value → OH → Prop := fun v H' => v = some (.int 1)
theorem D_0 : Dc code 0 (.iload 8) 2 2 := ⟨at_0, rfl⟩
theorem D_2 : Dc code 2 (.iconst 1) 1 3 := ⟨at_2, rfl⟩
theorem D_3 : Dc code 3 (.iand) 1 4 := ⟨at_3, rfl⟩
theorem D_4 : Dc code 4 (.ifCond .eq 7) 3 7 := ⟨at_4, rfl⟩
theorem D_7 : Dc code 7 (.lload_n 0) 1 8 := ⟨at_7, rfl⟩
theorem D_8 : Dc code 8 (.goto 5) 3 11 := ⟨at_8, rfl⟩
theorem D_11 : Dc code 11 (.lload 4) 2 13 := ⟨at_11, rfl⟩
theorem D_13 : Dc code 13 (.lstore 9) 2 15 := ⟨at_13, rfl⟩
theorem D_15 : Dc code 15 (.iload 8) 2 17 := ⟨at_15, rfl⟩
theorem D_17 : Dc code 17 (.iconst 2) 1 18 := ⟨at_17, rfl⟩
theorem D_18 : Dc code 18 (.iand) 1 19 := ⟨at_18, rfl⟩
theorem D_19 : Dc code 19 (.ifCond .eq 7) 3 22 := ⟨at_19, rfl⟩
theorem D_22 : Dc code 22 (.lload_n 2) 1 23 := ⟨at_22, rfl⟩
theorem D_23 : Dc code 23 (.goto 5) 3 26 := ⟨at_23, rfl⟩
theorem D_26 : Dc code 26 (.lload 6) 2 28 := ⟨at_26, rfl⟩
theorem D_28 : Dc code 28 (.lstore 11) 2 30 := ⟨at_28, rfl⟩
theorem D_30 : Dc code 30 (.new 7) 3 33 := ⟨at_30, rfl⟩
theorem D_33 : Dc code 33 (.dup) 1 34 := ⟨at_33, rfl⟩
theorem D_34 : Dc code 34 (.lload_n 0) 1 35 := ⟨at_34, rfl⟩
theorem D_35 : Dc code 35 (.lload_n 2) 1 36 := ⟨at_35, rfl⟩
theorem D_36 : Dc code 36 (.invokespecial 9) 3 39 := ⟨at_36, rfl⟩
theorem D_39 : Dc code 39 (.astore 13) 2 41 := ⟨at_39, rfl⟩
theorem D_41 : Dc code 41 (.new 7) 3 44 := ⟨at_41, rfl⟩
theorem D_44 : Dc code 44 (.dup) 1 45 := ⟨at_44, rfl⟩
theorem D_45 : Dc code 45 (.lload 9) 2 47 := ⟨at_45, rfl⟩
theorem D_47 : Dc code 47 (.lload 11) 2 49 := ⟨at_47, rfl⟩
theorem D_49 : Dc code 49 (.invokespecial 9) 3 52 := ⟨at_49, rfl⟩
theorem D_52 : Dc code 52 (.astore 14) 2 54 := ⟨at_52, rfl⟩
theorem D_54 : Dc code 54 (.lload_n 0) 1 55 := ⟨at_54, rfl⟩
theorem D_55 : Dc code 55 (.lload 9) 2 57 := ⟨at_55, rfl⟩
theorem D_57 : Dc code 57 (.lcmp) 1 58 := ⟨at_57, rfl⟩
theorem D_58 : Dc code 58 (.ifCond .ne 14) 3 61 := ⟨at_58, rfl⟩
theorem D_61 : Dc code 61 (.lload_n 2) 1 62 := ⟨at_61, rfl⟩
theorem D_62 : Dc code 62 (.lload 11) 2 64 := ⟨at_62, rfl⟩
theorem D_64 : Dc code 64 (.lcmp) 1 65 := ⟨at_64, rfl⟩
theorem D_65 : Dc code 65 (.ifCond .ne 7) 3 68 := ⟨at_65, rfl⟩
theorem D_68 : Dc code 68 (.iconst 1) 1 69 := ⟨at_68, rfl⟩
theorem D_69 : Dc code 69 (.goto 4) 3 72 := ⟨at_69, rfl⟩
theorem D_72 : Dc code 72 (.iconst 0) 1 73 := ⟨at_72, rfl⟩
theorem D_73 : Dc code 73 (.istore 15) 2 75 := ⟨at_73, rfl⟩
theorem D_75 : Dc code 75 (.iload 8) 2 77 := ⟨at_75, rfl⟩
theorem D_77 : Dc code 77 (.iconst 4) 1 78 := ⟨at_77, rfl⟩
theorem D_78 : Dc code 78 (.iand) 1 79 := ⟨at_78, rfl⟩
theorem D_79 : Dc code 79 (.ifCond .eq 7) 3 82 := ⟨at_79, rfl⟩
theorem D_82 : Dc code 82 (.aconst_null) 1 83 := ⟨at_82, rfl⟩
theorem D_83 : Dc code 83 (.goto 7) 3 86 := ⟨at_83, rfl⟩
theorem D_86 : Dc code 86 (.lload_n 0) 1 87 := ⟨at_86, rfl⟩
theorem D_87 : Dc code 87 (.invokestatic 12) 3 90 := ⟨at_87, rfl⟩
theorem D_90 : Dc code 90 (.astore 16) 2 92 := ⟨at_90, rfl⟩
theorem D_92 : Dc code 92 (.aload 13) 2 94 := ⟨at_92, rfl⟩
theorem D_94 : Dc code 94 (.aload 14) 2 96 := ⟨at_94, rfl⟩
theorem D_96 : Dc code 96 (.invokevirtual 18) 3 99 := ⟨at_96, rfl⟩
theorem D_99 : Dc code 99 (.istore 17) 2 101 := ⟨at_99, rfl⟩
theorem D_101 : Dc code 101 (.aload 14) 2 103 := ⟨at_101, rfl⟩
theorem D_103 : Dc code 103 (.aload 13) 2 105 := ⟨at_103, rfl⟩
theorem D_105 : Dc code 105 (.invokevirtual 18) 3 108 := ⟨at_105, rfl⟩
theorem D_108 : Dc code 108 (.istore 18) 2 110 := ⟨at_108, rfl⟩
theorem D_110 : Dc code 110 (.aload 13) 2 112 := ⟨at_110, rfl⟩
theorem D_112 : Dc code 112 (.aload 13) 2 114 := ⟨at_112, rfl⟩
theorem D_114 : Dc code 114 (.invokevirtual 18) 3 117 := ⟨at_114, rfl⟩
theorem D_117 : Dc code 117 (.istore 19) 2 119 := ⟨at_117, rfl⟩
theorem D_119 : Dc code 119 (.aload 13) 2 121 := ⟨at_119, rfl⟩
theorem D_121 : Dc code 121 (.aload 16) 2 123 := ⟨at_121, rfl⟩
theorem D_123 : Dc code 123 (.invokevirtual 18) 3 126 := ⟨at_123, rfl⟩
theorem D_126 : Dc code 126 (.istore 20) 2 128 := ⟨at_126, rfl⟩
theorem D_128 : Dc code 128 (.iload 17) 2 130 := ⟨at_128, rfl⟩
theorem D_130 : Dc code 130 (.iload 15) 2 132 := ⟨at_130, rfl⟩
theorem D_132 : Dc code 132 (.if_icmp .ne 24) 3 135 := ⟨at_132, rfl⟩
theorem D_135 : Dc code 135 (.iload 18) 2 137 := ⟨at_135, rfl⟩
theorem D_137 : Dc code 137 (.iload 15) 2 139 := ⟨at_137, rfl⟩
theorem D_139 : Dc code 139 (.if_icmp .ne 17) 3 142 := ⟨at_139, rfl⟩
theorem D_142 : Dc code 142 (.iload 19) 2 144 := ⟨at_142, rfl⟩
theorem D_144 : Dc code 144 (.ifCond .eq 12) 3 147 := ⟨at_144, rfl⟩
theorem D_147 : Dc code 147 (.iload 20) 2 149 := ⟨at_147, rfl⟩
theorem D_149 : Dc code 149 (.ifCond .ne 7) 3 152 := ⟨at_149, rfl⟩
theorem D_152 : Dc code 152 (.iconst 1) 1 153 := ⟨at_152, rfl⟩
theorem D_153 : Dc code 153 (.goto 4) 3 156 := ⟨at_153, rfl⟩
theorem D_156 : Dc code 156 (.iconst 0) 1 157 := ⟨at_156, rfl⟩
theorem D_157 : Dc code 157 (.ireturn) 1 158 := ⟨at_157, rfl⟩
set_option maxRecDepth 65536 in
set_option maxHeartbeats 40000000 in
theorem law_wp (l : Launch) (Z : State) (a0 : Array Value) (hw : ∀ d ∈ tables_1, d.before a0 Z = true) (a : Int64) (b : Int64) (c : Int64) (d : Int64) (flag : Int32) (aC : Addr) (cl : Cell) (S_C : Sta Z Z.heap "java/lang/Long$LongCache" "cache" "[Ljava/lang/Long;" (.ref aC)) (A_C : Arr Z Z.heap aC cl (.object "java/lang/Long")) (hsz : cl.slots.size = 256) (hC : ∀ i, i < 256 → ∃ y, cl.slots[i]? = some (.ref y) ∧ Exa Z Z.heap y "java/lang/Long") (hno : ∃ c t, Z.vm.findClass "java/lang/Long" = some c ∧ Z.vm.findClass "com/example/prim_canon/primcanon/compare/Difference" = some t ∧ Z.vm.assignable c t = false): Wp none l Z "com/example/prim_canon/primcanon/compare/DifferenceEqualsPinLaw" "law" code maxLocals ret room_1 [] 0 0 0 #[.val (.long a), .second, .val (.long b), .second, .val (.long c), .second, .val (.long d), .second, .val (.int flag), .unset, .unset, .unset, .unset, .unset, .unset, .unset, .unset, .unset, .unset, .unset, .unset] [] Q_law := by
  refine wp_iload D_0 rfl ?_
  refine wp_iconst 1 D_2 (by decide) ?_
  refine wp_iand D_3 ?_
  have J4 : ∀ (b2 : Int64), (((flag &&& (1 : Int32)) = (0 : Int32) ∧ b2 = c) ∨ (¬ (flag &&& (1 : Int32)) = (0 : Int32) ∧ b2 = a)) → Wp none l Z "com/example/prim_canon/primcanon/compare/DifferenceEqualsPinLaw" "law" code maxLocals ret room_1 [] 0 0 13 #[.val (.long a), .second, .val (.long b), .second, .val (.long c), .second, .val (.long d), .second, .val (.int flag), .unset, .unset, .unset, .unset, .unset, .unset, .unset, .unset, .unset, .unset, .unset, .unset] [(.long b2)] Q_law := by
    intro b2 hj3
    refine wp_lstore #[.val (.long a), .second, .val (.long b), .second, .val (.long c), .second, .val (.long d), .second, .val (.int flag), .val (.long b2), .second, .unset, .unset, .unset, .unset, .unset, .unset, .unset, .unset, .unset, .unset] D_13 rfl ?_
    refine wp_iload D_15 rfl ?_
    refine wp_iconst 2 D_17 (by decide) ?_
    refine wp_iand D_18 ?_
    have J8 : ∀ (b6 : Int64), (((flag &&& (2 : Int32)) = (0 : Int32) ∧ b6 = d) ∨ (¬ (flag &&& (2 : Int32)) = (0 : Int32) ∧ b6 = b)) → Wp none l Z "com/example/prim_canon/primcanon/compare/DifferenceEqualsPinLaw" "law" code maxLocals ret room_1 [] 0 0 28 #[.val (.long a), .second, .val (.long b), .second, .val (.long c), .second, .val (.long d), .second, .val (.int flag), .val (.long b2), .second, .unset, .unset, .unset, .unset, .unset, .unset, .unset, .unset, .unset, .unset] [(.long b6)] Q_law := by
      intro b6 hj7
      refine wp_lstore #[.val (.long a), .second, .val (.long b), .second, .val (.long c), .second, .val (.long d), .second, .val (.int flag), .val (.long b2), .second, .val (.long b6), .second, .unset, .unset, .unset, .unset, .unset, .unset, .unset, .unset] D_28 rfl ?_
      refine wp_new sg_1 [(.long (0 : Int64)), (.long (0 : Int64))] D_30 (hw _ (List.mem_of_getElem? (i := 0) rfl)) (hw _ (List.mem_of_getElem? (i := 1) rfl)) (hw _ (List.mem_of_getElem? (i := 2) rfl)) (laid_sg_1 l Z a0 hw) (by decide) dfl_sg_1 (by decide) (by decide) ?_
      intro a9
      show Wp none l Z "com/example/prim_canon/primcanon/compare/DifferenceEqualsPinLaw" "law" code maxLocals ret room_1 [(a9, oI "com/example/prim_canon/primcanon/compare/Difference" sg_1 [(.long (0 : Int64)), (.long (0 : Int64))])] 1 2 33 #[.val (.long a), .second, .val (.long b), .second, .val (.long c), .second, .val (.long d), .second, .val (.int flag), .val (.long b2), .second, .val (.long b6), .second, .unset, .unset, .unset, .unset, .unset, .unset, .unset, .unset] [(.ref a9)] Q_law
      refine wp_dup D_33 rfl ?_
      refine wp_lload_n D_34 rfl ?_
      refine wp_lload_n D_35 rfl ?_
      refine wp_init (c_df l Z a0 hw a9 a b []) D_36 rfl (hw _ (List.mem_of_getElem? (i := 3) rfl)) (hw _ (List.mem_of_getElem? (i := 4) rfl)) (hw _ (List.mem_of_getElem? (i := 2) rfl)) (hw _ (List.mem_of_getElem? (i := 5) rfl)) (by decide) pd_3 rfl rfl rfl (Nat.le_of_ble_eq_true rfl) (Nat.le_of_ble_eq_true rfl) (Nat.le_of_ble_eq_true rfl) (Nat.le_of_ble_eq_true rfl) ?_
      rintro _ _ ⟨rfl, rfl⟩
      show Wp none l Z "com/example/prim_canon/primcanon/compare/DifferenceEqualsPinLaw" "law" code maxLocals ret room_1 [(a9, oI "com/example/prim_canon/primcanon/compare/Difference" sg_1 [(.long a), (.long b)])] 1 2 39 #[.val (.long a), .second, .val (.long b), .second, .val (.long c), .second, .val (.long d), .second, .val (.int flag), .val (.long b2), .second, .val (.long b6), .second, .unset, .unset, .unset, .unset, .unset, .unset, .unset, .unset] [(.ref a9)] Q_law
      refine wp_astore #[.val (.long a), .second, .val (.long b), .second, .val (.long c), .second, .val (.long d), .second, .val (.int flag), .val (.long b2), .second, .val (.long b6), .second, .val (.ref a9), .unset, .unset, .unset, .unset, .unset, .unset, .unset] D_39 rfl rfl ?_
      refine wp_new sg_1 [(.long (0 : Int64)), (.long (0 : Int64))] D_41 (hw _ (List.mem_of_getElem? (i := 0) rfl)) (hw _ (List.mem_of_getElem? (i := 1) rfl)) (hw _ (List.mem_of_getElem? (i := 2) rfl)) (laid_sg_1 l Z a0 hw) (by decide) dfl_sg_1 (by decide) (by decide) ?_
      intro a10
      show Wp none l Z "com/example/prim_canon/primcanon/compare/DifferenceEqualsPinLaw" "law" code maxLocals ret room_1 [(a10, oI "com/example/prim_canon/primcanon/compare/Difference" sg_1 [(.long (0 : Int64)), (.long (0 : Int64))]), (a9, oI "com/example/prim_canon/primcanon/compare/Difference" sg_1 [(.long a), (.long b)])] 2 4 44 #[.val (.long a), .second, .val (.long b), .second, .val (.long c), .second, .val (.long d), .second, .val (.int flag), .val (.long b2), .second, .val (.long b6), .second, .val (.ref a9), .unset, .unset, .unset, .unset, .unset, .unset, .unset] [(.ref a10)] Q_law
      refine wp_dup D_44 rfl ?_
      refine wp_lload D_45 rfl ?_
      refine wp_lload D_47 rfl ?_
      refine wp_init (c_df l Z a0 hw a10 b2 b6 [(a9, oI "com/example/prim_canon/primcanon/compare/Difference" sg_1 [(.long a), (.long b)])]) D_49 rfl (hw _ (List.mem_of_getElem? (i := 3) rfl)) (hw _ (List.mem_of_getElem? (i := 4) rfl)) (hw _ (List.mem_of_getElem? (i := 2) rfl)) (hw _ (List.mem_of_getElem? (i := 5) rfl)) (by decide) pd_3 rfl rfl rfl (Nat.le_of_ble_eq_true rfl) (Nat.le_of_ble_eq_true rfl) (Nat.le_of_ble_eq_true rfl) (Nat.le_of_ble_eq_true rfl) ?_
      rintro _ _ ⟨rfl, rfl⟩
      show Wp none l Z "com/example/prim_canon/primcanon/compare/DifferenceEqualsPinLaw" "law" code maxLocals ret room_1 [(a10, oI "com/example/prim_canon/primcanon/compare/Difference" sg_1 [(.long b2), (.long b6)]), (a9, oI "com/example/prim_canon/primcanon/compare/Difference" sg_1 [(.long a), (.long b)])] 2 4 52 #[.val (.long a), .second, .val (.long b), .second, .val (.long c), .second, .val (.long d), .second, .val (.int flag), .val (.long b2), .second, .val (.long b6), .second, .val (.ref a9), .unset, .unset, .unset, .unset, .unset, .unset, .unset] [(.ref a10)] Q_law
      refine wp_astore #[.val (.long a), .second, .val (.long b), .second, .val (.long c), .second, .val (.long d), .second, .val (.int flag), .val (.long b2), .second, .val (.long b6), .second, .val (.ref a9), .val (.ref a10), .unset, .unset, .unset, .unset, .unset, .unset] D_52 rfl rfl ?_
      refine wp_lload_n D_54 rfl ?_
      refine wp_lload D_55 rfl ?_
      have J14 : ∀ (b12 : Int32), ((¬ a = b2 ∧ b12 = (0 : Int32)) ∨ (a = b2 ∧ ¬ b = b6 ∧ b12 = (0 : Int32)) ∨ (a = b2 ∧ b = b6 ∧ b12 = (1 : Int32))) → Wp none l Z "com/example/prim_canon/primcanon/compare/DifferenceEqualsPinLaw" "law" code maxLocals ret room_1 [(a10, oI "com/example/prim_canon/primcanon/compare/Difference" sg_1 [(.long b2), (.long b6)]), (a9, oI "com/example/prim_canon/primcanon/compare/Difference" sg_1 [(.long a), (.long b)])] 2 4 73 #[.val (.long a), .second, .val (.long b), .second, .val (.long c), .second, .val (.long d), .second, .val (.int flag), .val (.long b2), .second, .val (.long b6), .second, .val (.ref a9), .val (.ref a10), .unset, .unset, .unset, .unset, .unset, .unset] [(.int b12)] Q_law := by
        intro b12 hj13
        refine wp_istore #[.val (.long a), .second, .val (.long b), .second, .val (.long c), .second, .val (.long d), .second, .val (.int flag), .val (.long b2), .second, .val (.long b6), .second, .val (.ref a9), .val (.ref a10), .val (.int b12), .unset, .unset, .unset, .unset, .unset] D_73 rfl ?_
        refine wp_iload D_75 rfl ?_
        refine wp_iconst 4 D_77 (by decide) ?_
        refine wp_iand D_78 ?_
        refine wp_if_eq D_79 (pc'' := 86) ⟨by decide, by decide⟩ (fun h15 => ?_) (fun h15 => ?_)
        · skip
          refine wp_lload_n D_86 rfl ?_
          refine wp_callS (c_val l Z a0 hw a aC cl [(a10, oI "com/example/prim_canon/primcanon/compare/Difference" sg_1 [(.long b2), (.long b6)]), (a9, oI "com/example/prim_canon/primcanon/compare/Difference" sg_1 [(.long a), (.long b)])] S_C A_C hsz hC) D_87 (hw _ (List.mem_of_getElem? (i := 13) rfl)) (hw _ (List.mem_of_getElem? (i := 14) rfl)) (hw _ (List.mem_of_getElem? (i := 15) rfl)) (hw _ (List.mem_of_getElem? (i := 16) rfl)) (by decide) pd_4 rfl rfl rfl (Nat.le_of_ble_eq_true rfl) (Nat.le_of_ble_eq_true rfl) (Nat.le_of_ble_eq_true rfl) (Nat.le_of_ble_eq_true rfl) ?_
          rintro _ _ ⟨g16, rfl, ⟨rfl, hE_g16⟩ | rfl⟩
          · skip
            show Wp none l Z "com/example/prim_canon/primcanon/compare/DifferenceEqualsPinLaw" "law" code maxLocals ret room_1 [(a10, oI "com/example/prim_canon/primcanon/compare/Difference" sg_1 [(.long b2), (.long b6)]), (a9, oI "com/example/prim_canon/primcanon/compare/Difference" sg_1 [(.long a), (.long b)])] 3 5 90 #[.val (.long a), .second, .val (.long b), .second, .val (.long c), .second, .val (.long d), .second, .val (.int flag), .val (.long b2), .second, .val (.long b6), .second, .val (.ref a9), .val (.ref a10), .val (.int b12), .unset, .unset, .unset, .unset, .unset] [(.ref g16)] Q_law
            refine wp_astore #[.val (.long a), .second, .val (.long b), .second, .val (.long c), .second, .val (.long d), .second, .val (.int flag), .val (.long b2), .second, .val (.long b6), .second, .val (.ref a9), .val (.ref a10), .val (.int b12), .val (.ref g16), .unset, .unset, .unset, .unset] D_90 rfl rfl ?_
            refine wp_aload D_92 rfl rfl ?_
            refine wp_aload D_94 rfl rfl ?_
            refine Wp.pick [1, 0] (by decide) ?_
            show Wp none l Z "com/example/prim_canon/primcanon/compare/DifferenceEqualsPinLaw" "law" code maxLocals ret room_1 [(a9, oI "com/example/prim_canon/primcanon/compare/Difference" sg_1 [(.long a), (.long b)]), (a10, oI "com/example/prim_canon/primcanon/compare/Difference" sg_1 [(.long b2), (.long b6)])] 3 5 96 #[.val (.long a), .second, .val (.long b), .second, .val (.long c), .second, .val (.long d), .second, .val (.int flag), .val (.long b2), .second, .val (.long b6), .second, .val (.ref a9), .val (.ref a10), .val (.int b12), .val (.ref g16), .unset, .unset, .unset, .unset] [(.ref a10), (.ref a9)] Q_law
            refine wp_virtual (c_eq l Z a0 hw a9 a10 a b b2 b6 []) (exa_new (i := 0) rfl) D_96 (hw _ (List.mem_of_getElem? (i := 21) rfl)) (hw _ (List.mem_of_getElem? (i := 22) rfl)) (hw _ (List.mem_of_getElem? (i := 24) rfl)) (hw _ (List.mem_of_getElem? (i := 24) rfl)) (hw _ (List.mem_of_getElem? (i := 23) rfl)) (hw _ (List.mem_of_getElem? (i := 2) rfl)) (hw _ (List.mem_of_getElem? (i := 25) rfl)) (by decide) pd_5 rfl rfl rfl (Nat.le_of_ble_eq_true rfl) (Nat.le_of_ble_eq_true rfl) (Nat.le_of_ble_eq_true rfl) (Nat.le_of_ble_eq_true rfl) ?_
            rintro _ _ ⟨rfl, rfl⟩
            by_cases hp17 : a = b2 ∧ b = b6
            · rw [if_pos hp17]
              show Wp none l Z "com/example/prim_canon/primcanon/compare/DifferenceEqualsPinLaw" "law" code maxLocals ret room_1 [(a9, oI "com/example/prim_canon/primcanon/compare/Difference" sg_1 [(.long a), (.long b)]), (a10, oI "com/example/prim_canon/primcanon/compare/Difference" sg_1 [(.long b2), (.long b6)])] 3 5 99 #[.val (.long a), .second, .val (.long b), .second, .val (.long c), .second, .val (.long d), .second, .val (.int flag), .val (.long b2), .second, .val (.long b6), .second, .val (.ref a9), .val (.ref a10), .val (.int b12), .val (.ref g16), .unset, .unset, .unset, .unset] [(.int (1 : Int32))] Q_law
              refine wp_istore #[.val (.long a), .second, .val (.long b), .second, .val (.long c), .second, .val (.long d), .second, .val (.int flag), .val (.long b2), .second, .val (.long b6), .second, .val (.ref a9), .val (.ref a10), .val (.int b12), .val (.ref g16), .val (.int (1 : Int32)), .unset, .unset, .unset] D_99 rfl ?_
              refine wp_aload D_101 rfl rfl ?_
              refine wp_aload D_103 rfl rfl ?_
              refine Wp.pick [1, 0] (by decide) ?_
              show Wp none l Z "com/example/prim_canon/primcanon/compare/DifferenceEqualsPinLaw" "law" code maxLocals ret room_1 [(a10, oI "com/example/prim_canon/primcanon/compare/Difference" sg_1 [(.long b2), (.long b6)]), (a9, oI "com/example/prim_canon/primcanon/compare/Difference" sg_1 [(.long a), (.long b)])] 3 5 105 #[.val (.long a), .second, .val (.long b), .second, .val (.long c), .second, .val (.long d), .second, .val (.int flag), .val (.long b2), .second, .val (.long b6), .second, .val (.ref a9), .val (.ref a10), .val (.int b12), .val (.ref g16), .val (.int (1 : Int32)), .unset, .unset, .unset] [(.ref a9), (.ref a10)] Q_law
              refine wp_virtual (c_eq l Z a0 hw a10 a9 b2 b6 a b []) (exa_new (i := 0) rfl) D_105 (hw _ (List.mem_of_getElem? (i := 21) rfl)) (hw _ (List.mem_of_getElem? (i := 22) rfl)) (hw _ (List.mem_of_getElem? (i := 24) rfl)) (hw _ (List.mem_of_getElem? (i := 24) rfl)) (hw _ (List.mem_of_getElem? (i := 23) rfl)) (hw _ (List.mem_of_getElem? (i := 2) rfl)) (hw _ (List.mem_of_getElem? (i := 25) rfl)) (by decide) pd_5 rfl rfl rfl (Nat.le_of_ble_eq_true rfl) (Nat.le_of_ble_eq_true rfl) (Nat.le_of_ble_eq_true rfl) (Nat.le_of_ble_eq_true rfl) ?_
              rintro _ _ ⟨rfl, rfl⟩
              by_cases hp18 : b2 = a ∧ b6 = b
              · rw [if_pos hp18]
                show Wp none l Z "com/example/prim_canon/primcanon/compare/DifferenceEqualsPinLaw" "law" code maxLocals ret room_1 [(a10, oI "com/example/prim_canon/primcanon/compare/Difference" sg_1 [(.long b2), (.long b6)]), (a9, oI "com/example/prim_canon/primcanon/compare/Difference" sg_1 [(.long a), (.long b)])] 3 5 108 #[.val (.long a), .second, .val (.long b), .second, .val (.long c), .second, .val (.long d), .second, .val (.int flag), .val (.long b2), .second, .val (.long b6), .second, .val (.ref a9), .val (.ref a10), .val (.int b12), .val (.ref g16), .val (.int (1 : Int32)), .unset, .unset, .unset] [(.int (1 : Int32))] Q_law
                refine wp_istore #[.val (.long a), .second, .val (.long b), .second, .val (.long c), .second, .val (.long d), .second, .val (.int flag), .val (.long b2), .second, .val (.long b6), .second, .val (.ref a9), .val (.ref a10), .val (.int b12), .val (.ref g16), .val (.int (1 : Int32)), .val (.int (1 : Int32)), .unset, .unset] D_108 rfl ?_
                refine wp_aload D_110 rfl rfl ?_
                refine wp_aload D_112 rfl rfl ?_
                refine Wp.pick [1, 0] (by decide) ?_
                show Wp none l Z "com/example/prim_canon/primcanon/compare/DifferenceEqualsPinLaw" "law" code maxLocals ret room_1 [(a9, oI "com/example/prim_canon/primcanon/compare/Difference" sg_1 [(.long a), (.long b)]), (a10, oI "com/example/prim_canon/primcanon/compare/Difference" sg_1 [(.long b2), (.long b6)])] 3 5 114 #[.val (.long a), .second, .val (.long b), .second, .val (.long c), .second, .val (.long d), .second, .val (.int flag), .val (.long b2), .second, .val (.long b6), .second, .val (.ref a9), .val (.ref a10), .val (.int b12), .val (.ref g16), .val (.int (1 : Int32)), .val (.int (1 : Int32)), .unset, .unset] [(.ref a9), (.ref a9)] Q_law
                refine wp_virtual (c_eqs l Z a0 hw a9 a b [(a10, oI "com/example/prim_canon/primcanon/compare/Difference" sg_1 [(.long b2), (.long b6)])]) (exa_new (i := 0) rfl) D_114 (hw _ (List.mem_of_getElem? (i := 21) rfl)) (hw _ (List.mem_of_getElem? (i := 22) rfl)) (hw _ (List.mem_of_getElem? (i := 24) rfl)) (hw _ (List.mem_of_getElem? (i := 24) rfl)) (hw _ (List.mem_of_getElem? (i := 23) rfl)) (hw _ (List.mem_of_getElem? (i := 2) rfl)) (hw _ (List.mem_of_getElem? (i := 25) rfl)) (by decide) pd_5 rfl rfl rfl (Nat.le_of_ble_eq_true rfl) (Nat.le_of_ble_eq_true rfl) (Nat.le_of_ble_eq_true rfl) (Nat.le_of_ble_eq_true rfl) ?_
                rintro _ _ ⟨rfl, rfl⟩
                show Wp none l Z "com/example/prim_canon/primcanon/compare/DifferenceEqualsPinLaw" "law" code maxLocals ret room_1 [(a9, oI "com/example/prim_canon/primcanon/compare/Difference" sg_1 [(.long a), (.long b)]), (a10, oI "com/example/prim_canon/primcanon/compare/Difference" sg_1 [(.long b2), (.long b6)])] 3 5 117 #[.val (.long a), .second, .val (.long b), .second, .val (.long c), .second, .val (.long d), .second, .val (.int flag), .val (.long b2), .second, .val (.long b6), .second, .val (.ref a9), .val (.ref a10), .val (.int b12), .val (.ref g16), .val (.int (1 : Int32)), .val (.int (1 : Int32)), .unset, .unset] [(.int (1 : Int32))] Q_law
                refine wp_istore #[.val (.long a), .second, .val (.long b), .second, .val (.long c), .second, .val (.long d), .second, .val (.int flag), .val (.long b2), .second, .val (.long b6), .second, .val (.ref a9), .val (.ref a10), .val (.int b12), .val (.ref g16), .val (.int (1 : Int32)), .val (.int (1 : Int32)), .val (.int (1 : Int32)), .unset] D_117 rfl ?_
                refine wp_aload D_119 rfl rfl ?_
                refine wp_aload D_121 rfl rfl ?_
                refine wp_virtual (c_eql l Z a0 hw a9 g16 [(a9, oI "com/example/prim_canon/primcanon/compare/Difference" sg_1 [(.long a), (.long b)]), (a10, oI "com/example/prim_canon/primcanon/compare/Difference" sg_1 [(.long b2), (.long b6)])] (exa_old hE_g16) hno) (exa_new (i := 0) rfl) D_123 (hw _ (List.mem_of_getElem? (i := 21) rfl)) (hw _ (List.mem_of_getElem? (i := 22) rfl)) (hw _ (List.mem_of_getElem? (i := 24) rfl)) (hw _ (List.mem_of_getElem? (i := 24) rfl)) (hw _ (List.mem_of_getElem? (i := 23) rfl)) (hw _ (List.mem_of_getElem? (i := 2) rfl)) (hw _ (List.mem_of_getElem? (i := 25) rfl)) (by decide) pd_5 rfl rfl rfl (Nat.le_of_ble_eq_true rfl) (Nat.le_of_ble_eq_true rfl) (Nat.le_of_ble_eq_true rfl) (Nat.le_of_ble_eq_true rfl) ?_
                rintro _ _ ⟨rfl, rfl⟩
                show Wp none l Z "com/example/prim_canon/primcanon/compare/DifferenceEqualsPinLaw" "law" code maxLocals ret room_1 [(a9, oI "com/example/prim_canon/primcanon/compare/Difference" sg_1 [(.long a), (.long b)]), (a10, oI "com/example/prim_canon/primcanon/compare/Difference" sg_1 [(.long b2), (.long b6)])] 3 5 126 #[.val (.long a), .second, .val (.long b), .second, .val (.long c), .second, .val (.long d), .second, .val (.int flag), .val (.long b2), .second, .val (.long b6), .second, .val (.ref a9), .val (.ref a10), .val (.int b12), .val (.ref g16), .val (.int (1 : Int32)), .val (.int (1 : Int32)), .val (.int (1 : Int32)), .unset] [(.int (0 : Int32))] Q_law
                refine wp_istore #[.val (.long a), .second, .val (.long b), .second, .val (.long c), .second, .val (.long d), .second, .val (.int flag), .val (.long b2), .second, .val (.long b6), .second, .val (.ref a9), .val (.ref a10), .val (.int b12), .val (.ref g16), .val (.int (1 : Int32)), .val (.int (1 : Int32)), .val (.int (1 : Int32)), .val (.int (0 : Int32))] D_126 rfl ?_
                refine wp_iload D_128 rfl ?_
                refine wp_iload D_130 rfl ?_
                refine wp_icmp_ne D_132 (pc'' := 156) ⟨by decide, by decide⟩ (fun h19 => ?_) (fun h19 => ?_)
                · skip
                  refine wp_iconst 0 D_156 (by decide) ?_
                  refine wp_ireturnN D_157 rfl (by simp) (by decide) (by decide) ?_
                  exfalso; clear hw S_C A_C hsz hC hno hj3 hj7; rcases hj13 with ⟨q1, q2⟩ | ⟨q1, q2, q3⟩ | ⟨q1, q2, q3⟩ <;> (simp only [Int32.lt_iff_toInt_lt, Int32.le_iff_toInt_le, ← Int32.toInt_inj, Int32.reduceToInt, Int64.lt_iff_toInt_lt, ← Int64.toInt_inj, Int64.reduceToInt] at *; omega)
                · skip
                  refine wp_iload D_135 rfl ?_
                  refine wp_iload D_137 rfl ?_
                  refine wp_icmp_ne D_139 (pc'' := 156) ⟨by decide, by decide⟩ (fun h20 => ?_) (fun h20 => ?_)
                  · skip
                    refine wp_iconst 0 D_156 (by decide) ?_
                    refine wp_ireturnN D_157 rfl (by simp) (by decide) (by decide) ?_
                    exfalso; clear hw S_C A_C hsz hC hno hj3 hj7; rcases hj13 with ⟨q1, q2⟩ | ⟨q1, q2, q3⟩ | ⟨q1, q2, q3⟩ <;> (simp only [Int32.lt_iff_toInt_lt, Int32.le_iff_toInt_le, ← Int32.toInt_inj, Int32.reduceToInt, Int64.lt_iff_toInt_lt, ← Int64.toInt_inj, Int64.reduceToInt] at *; omega)
                  · skip
                    refine wp_iload D_142 rfl ?_
                    refine wp_if_eq D_144 (pc'' := 156) ⟨by decide, by decide⟩ (fun h21 => by exact absurd h21 (by decide)) (fun h21 => ?_)
                    refine wp_iload D_147 rfl ?_
                    refine wp_if_ne D_149 (pc'' := 156) ⟨by decide, by decide⟩ (fun h22 => by exact absurd h22 (by decide)) (fun h22 => ?_)
                    refine wp_iconst 1 D_152 (by decide) ?_
                    refine wp_goto D_153 (pc'' := 157) ⟨by decide, by decide⟩ ?_
                    refine wp_ireturnN D_157 rfl (by simp) (by decide) (by decide) ?_
                    exact rfl
              · rw [if_neg hp18]
                show Wp none l Z "com/example/prim_canon/primcanon/compare/DifferenceEqualsPinLaw" "law" code maxLocals ret room_1 [(a10, oI "com/example/prim_canon/primcanon/compare/Difference" sg_1 [(.long b2), (.long b6)]), (a9, oI "com/example/prim_canon/primcanon/compare/Difference" sg_1 [(.long a), (.long b)])] 3 5 108 #[.val (.long a), .second, .val (.long b), .second, .val (.long c), .second, .val (.long d), .second, .val (.int flag), .val (.long b2), .second, .val (.long b6), .second, .val (.ref a9), .val (.ref a10), .val (.int b12), .val (.ref g16), .val (.int (1 : Int32)), .unset, .unset, .unset] [(.int (0 : Int32))] Q_law
                refine wp_istore #[.val (.long a), .second, .val (.long b), .second, .val (.long c), .second, .val (.long d), .second, .val (.int flag), .val (.long b2), .second, .val (.long b6), .second, .val (.ref a9), .val (.ref a10), .val (.int b12), .val (.ref g16), .val (.int (1 : Int32)), .val (.int (0 : Int32)), .unset, .unset] D_108 rfl ?_
                refine wp_aload D_110 rfl rfl ?_
                refine wp_aload D_112 rfl rfl ?_
                refine Wp.pick [1, 0] (by decide) ?_
                show Wp none l Z "com/example/prim_canon/primcanon/compare/DifferenceEqualsPinLaw" "law" code maxLocals ret room_1 [(a9, oI "com/example/prim_canon/primcanon/compare/Difference" sg_1 [(.long a), (.long b)]), (a10, oI "com/example/prim_canon/primcanon/compare/Difference" sg_1 [(.long b2), (.long b6)])] 3 5 114 #[.val (.long a), .second, .val (.long b), .second, .val (.long c), .second, .val (.long d), .second, .val (.int flag), .val (.long b2), .second, .val (.long b6), .second, .val (.ref a9), .val (.ref a10), .val (.int b12), .val (.ref g16), .val (.int (1 : Int32)), .val (.int (0 : Int32)), .unset, .unset] [(.ref a9), (.ref a9)] Q_law
                refine wp_virtual (c_eqs l Z a0 hw a9 a b [(a10, oI "com/example/prim_canon/primcanon/compare/Difference" sg_1 [(.long b2), (.long b6)])]) (exa_new (i := 0) rfl) D_114 (hw _ (List.mem_of_getElem? (i := 21) rfl)) (hw _ (List.mem_of_getElem? (i := 22) rfl)) (hw _ (List.mem_of_getElem? (i := 24) rfl)) (hw _ (List.mem_of_getElem? (i := 24) rfl)) (hw _ (List.mem_of_getElem? (i := 23) rfl)) (hw _ (List.mem_of_getElem? (i := 2) rfl)) (hw _ (List.mem_of_getElem? (i := 25) rfl)) (by decide) pd_5 rfl rfl rfl (Nat.le_of_ble_eq_true rfl) (Nat.le_of_ble_eq_true rfl) (Nat.le_of_ble_eq_true rfl) (Nat.le_of_ble_eq_true rfl) ?_
                rintro _ _ ⟨rfl, rfl⟩
                show Wp none l Z "com/example/prim_canon/primcanon/compare/DifferenceEqualsPinLaw" "law" code maxLocals ret room_1 [(a9, oI "com/example/prim_canon/primcanon/compare/Difference" sg_1 [(.long a), (.long b)]), (a10, oI "com/example/prim_canon/primcanon/compare/Difference" sg_1 [(.long b2), (.long b6)])] 3 5 117 #[.val (.long a), .second, .val (.long b), .second, .val (.long c), .second, .val (.long d), .second, .val (.int flag), .val (.long b2), .second, .val (.long b6), .second, .val (.ref a9), .val (.ref a10), .val (.int b12), .val (.ref g16), .val (.int (1 : Int32)), .val (.int (0 : Int32)), .unset, .unset] [(.int (1 : Int32))] Q_law
                refine wp_istore #[.val (.long a), .second, .val (.long b), .second, .val (.long c), .second, .val (.long d), .second, .val (.int flag), .val (.long b2), .second, .val (.long b6), .second, .val (.ref a9), .val (.ref a10), .val (.int b12), .val (.ref g16), .val (.int (1 : Int32)), .val (.int (0 : Int32)), .val (.int (1 : Int32)), .unset] D_117 rfl ?_
                refine wp_aload D_119 rfl rfl ?_
                refine wp_aload D_121 rfl rfl ?_
                refine wp_virtual (c_eql l Z a0 hw a9 g16 [(a9, oI "com/example/prim_canon/primcanon/compare/Difference" sg_1 [(.long a), (.long b)]), (a10, oI "com/example/prim_canon/primcanon/compare/Difference" sg_1 [(.long b2), (.long b6)])] (exa_old hE_g16) hno) (exa_new (i := 0) rfl) D_123 (hw _ (List.mem_of_getElem? (i := 21) rfl)) (hw _ (List.mem_of_getElem? (i := 22) rfl)) (hw _ (List.mem_of_getElem? (i := 24) rfl)) (hw _ (List.mem_of_getElem? (i := 24) rfl)) (hw _ (List.mem_of_getElem? (i := 23) rfl)) (hw _ (List.mem_of_getElem? (i := 2) rfl)) (hw _ (List.mem_of_getElem? (i := 25) rfl)) (by decide) pd_5 rfl rfl rfl (Nat.le_of_ble_eq_true rfl) (Nat.le_of_ble_eq_true rfl) (Nat.le_of_ble_eq_true rfl) (Nat.le_of_ble_eq_true rfl) ?_
                rintro _ _ ⟨rfl, rfl⟩
                show Wp none l Z "com/example/prim_canon/primcanon/compare/DifferenceEqualsPinLaw" "law" code maxLocals ret room_1 [(a9, oI "com/example/prim_canon/primcanon/compare/Difference" sg_1 [(.long a), (.long b)]), (a10, oI "com/example/prim_canon/primcanon/compare/Difference" sg_1 [(.long b2), (.long b6)])] 3 5 126 #[.val (.long a), .second, .val (.long b), .second, .val (.long c), .second, .val (.long d), .second, .val (.int flag), .val (.long b2), .second, .val (.long b6), .second, .val (.ref a9), .val (.ref a10), .val (.int b12), .val (.ref g16), .val (.int (1 : Int32)), .val (.int (0 : Int32)), .val (.int (1 : Int32)), .unset] [(.int (0 : Int32))] Q_law
                refine wp_istore #[.val (.long a), .second, .val (.long b), .second, .val (.long c), .second, .val (.long d), .second, .val (.int flag), .val (.long b2), .second, .val (.long b6), .second, .val (.ref a9), .val (.ref a10), .val (.int b12), .val (.ref g16), .val (.int (1 : Int32)), .val (.int (0 : Int32)), .val (.int (1 : Int32)), .val (.int (0 : Int32))] D_126 rfl ?_
                refine wp_iload D_128 rfl ?_
                refine wp_iload D_130 rfl ?_
                refine wp_icmp_ne D_132 (pc'' := 156) ⟨by decide, by decide⟩ (fun h23 => ?_) (fun h23 => ?_)
                · skip
                  refine wp_iconst 0 D_156 (by decide) ?_
                  refine wp_ireturnN D_157 rfl (by simp) (by decide) (by decide) ?_
                  exfalso; clear hw S_C A_C hsz hC hno hj3 hj7; rcases hj13 with ⟨q1, q2⟩ | ⟨q1, q2, q3⟩ | ⟨q1, q2, q3⟩ <;> (simp only [Int32.lt_iff_toInt_lt, Int32.le_iff_toInt_le, ← Int32.toInt_inj, Int32.reduceToInt, Int64.lt_iff_toInt_lt, ← Int64.toInt_inj, Int64.reduceToInt] at *; omega)
                · skip
                  refine wp_iload D_135 rfl ?_
                  refine wp_iload D_137 rfl ?_
                  refine wp_icmp_ne D_139 (pc'' := 156) ⟨by decide, by decide⟩ (fun h24 => ?_) (fun h24 => ?_)
                  · skip
                    refine wp_iconst 0 D_156 (by decide) ?_
                    refine wp_ireturnN D_157 rfl (by simp) (by decide) (by decide) ?_
                    exfalso; clear hw S_C A_C hsz hC hno hj3 hj7; rcases hj13 with ⟨q1, q2⟩ | ⟨q1, q2, q3⟩ | ⟨q1, q2, q3⟩ <;> (simp only [Int32.lt_iff_toInt_lt, Int32.le_iff_toInt_le, ← Int32.toInt_inj, Int32.reduceToInt, Int64.lt_iff_toInt_lt, ← Int64.toInt_inj, Int64.reduceToInt] at *; omega)
                  · skip
                    refine wp_iload D_142 rfl ?_
                    refine wp_if_eq D_144 (pc'' := 156) ⟨by decide, by decide⟩ (fun h25 => by exact absurd h25 (by decide)) (fun h25 => ?_)
                    refine wp_iload D_147 rfl ?_
                    refine wp_if_ne D_149 (pc'' := 156) ⟨by decide, by decide⟩ (fun h26 => by exact absurd h26 (by decide)) (fun h26 => ?_)
                    refine wp_iconst 1 D_152 (by decide) ?_
                    refine wp_goto D_153 (pc'' := 157) ⟨by decide, by decide⟩ ?_
                    refine wp_ireturnN D_157 rfl (by simp) (by decide) (by decide) ?_
                    exact rfl
            · rw [if_neg hp17]
              show Wp none l Z "com/example/prim_canon/primcanon/compare/DifferenceEqualsPinLaw" "law" code maxLocals ret room_1 [(a9, oI "com/example/prim_canon/primcanon/compare/Difference" sg_1 [(.long a), (.long b)]), (a10, oI "com/example/prim_canon/primcanon/compare/Difference" sg_1 [(.long b2), (.long b6)])] 3 5 99 #[.val (.long a), .second, .val (.long b), .second, .val (.long c), .second, .val (.long d), .second, .val (.int flag), .val (.long b2), .second, .val (.long b6), .second, .val (.ref a9), .val (.ref a10), .val (.int b12), .val (.ref g16), .unset, .unset, .unset, .unset] [(.int (0 : Int32))] Q_law
              refine wp_istore #[.val (.long a), .second, .val (.long b), .second, .val (.long c), .second, .val (.long d), .second, .val (.int flag), .val (.long b2), .second, .val (.long b6), .second, .val (.ref a9), .val (.ref a10), .val (.int b12), .val (.ref g16), .val (.int (0 : Int32)), .unset, .unset, .unset] D_99 rfl ?_
              refine wp_aload D_101 rfl rfl ?_
              refine wp_aload D_103 rfl rfl ?_
              refine Wp.pick [1, 0] (by decide) ?_
              show Wp none l Z "com/example/prim_canon/primcanon/compare/DifferenceEqualsPinLaw" "law" code maxLocals ret room_1 [(a10, oI "com/example/prim_canon/primcanon/compare/Difference" sg_1 [(.long b2), (.long b6)]), (a9, oI "com/example/prim_canon/primcanon/compare/Difference" sg_1 [(.long a), (.long b)])] 3 5 105 #[.val (.long a), .second, .val (.long b), .second, .val (.long c), .second, .val (.long d), .second, .val (.int flag), .val (.long b2), .second, .val (.long b6), .second, .val (.ref a9), .val (.ref a10), .val (.int b12), .val (.ref g16), .val (.int (0 : Int32)), .unset, .unset, .unset] [(.ref a9), (.ref a10)] Q_law
              refine wp_virtual (c_eq l Z a0 hw a10 a9 b2 b6 a b []) (exa_new (i := 0) rfl) D_105 (hw _ (List.mem_of_getElem? (i := 21) rfl)) (hw _ (List.mem_of_getElem? (i := 22) rfl)) (hw _ (List.mem_of_getElem? (i := 24) rfl)) (hw _ (List.mem_of_getElem? (i := 24) rfl)) (hw _ (List.mem_of_getElem? (i := 23) rfl)) (hw _ (List.mem_of_getElem? (i := 2) rfl)) (hw _ (List.mem_of_getElem? (i := 25) rfl)) (by decide) pd_5 rfl rfl rfl (Nat.le_of_ble_eq_true rfl) (Nat.le_of_ble_eq_true rfl) (Nat.le_of_ble_eq_true rfl) (Nat.le_of_ble_eq_true rfl) ?_
              rintro _ _ ⟨rfl, rfl⟩
              by_cases hp27 : b2 = a ∧ b6 = b
              · rw [if_pos hp27]
                show Wp none l Z "com/example/prim_canon/primcanon/compare/DifferenceEqualsPinLaw" "law" code maxLocals ret room_1 [(a10, oI "com/example/prim_canon/primcanon/compare/Difference" sg_1 [(.long b2), (.long b6)]), (a9, oI "com/example/prim_canon/primcanon/compare/Difference" sg_1 [(.long a), (.long b)])] 3 5 108 #[.val (.long a), .second, .val (.long b), .second, .val (.long c), .second, .val (.long d), .second, .val (.int flag), .val (.long b2), .second, .val (.long b6), .second, .val (.ref a9), .val (.ref a10), .val (.int b12), .val (.ref g16), .val (.int (0 : Int32)), .unset, .unset, .unset] [(.int (1 : Int32))] Q_law
                refine wp_istore #[.val (.long a), .second, .val (.long b), .second, .val (.long c), .second, .val (.long d), .second, .val (.int flag), .val (.long b2), .second, .val (.long b6), .second, .val (.ref a9), .val (.ref a10), .val (.int b12), .val (.ref g16), .val (.int (0 : Int32)), .val (.int (1 : Int32)), .unset, .unset] D_108 rfl ?_
                refine wp_aload D_110 rfl rfl ?_
                refine wp_aload D_112 rfl rfl ?_
                refine Wp.pick [1, 0] (by decide) ?_
                show Wp none l Z "com/example/prim_canon/primcanon/compare/DifferenceEqualsPinLaw" "law" code maxLocals ret room_1 [(a9, oI "com/example/prim_canon/primcanon/compare/Difference" sg_1 [(.long a), (.long b)]), (a10, oI "com/example/prim_canon/primcanon/compare/Difference" sg_1 [(.long b2), (.long b6)])] 3 5 114 #[.val (.long a), .second, .val (.long b), .second, .val (.long c), .second, .val (.long d), .second, .val (.int flag), .val (.long b2), .second, .val (.long b6), .second, .val (.ref a9), .val (.ref a10), .val (.int b12), .val (.ref g16), .val (.int (0 : Int32)), .val (.int (1 : Int32)), .unset, .unset] [(.ref a9), (.ref a9)] Q_law
                refine wp_virtual (c_eqs l Z a0 hw a9 a b [(a10, oI "com/example/prim_canon/primcanon/compare/Difference" sg_1 [(.long b2), (.long b6)])]) (exa_new (i := 0) rfl) D_114 (hw _ (List.mem_of_getElem? (i := 21) rfl)) (hw _ (List.mem_of_getElem? (i := 22) rfl)) (hw _ (List.mem_of_getElem? (i := 24) rfl)) (hw _ (List.mem_of_getElem? (i := 24) rfl)) (hw _ (List.mem_of_getElem? (i := 23) rfl)) (hw _ (List.mem_of_getElem? (i := 2) rfl)) (hw _ (List.mem_of_getElem? (i := 25) rfl)) (by decide) pd_5 rfl rfl rfl (Nat.le_of_ble_eq_true rfl) (Nat.le_of_ble_eq_true rfl) (Nat.le_of_ble_eq_true rfl) (Nat.le_of_ble_eq_true rfl) ?_
                rintro _ _ ⟨rfl, rfl⟩
                show Wp none l Z "com/example/prim_canon/primcanon/compare/DifferenceEqualsPinLaw" "law" code maxLocals ret room_1 [(a9, oI "com/example/prim_canon/primcanon/compare/Difference" sg_1 [(.long a), (.long b)]), (a10, oI "com/example/prim_canon/primcanon/compare/Difference" sg_1 [(.long b2), (.long b6)])] 3 5 117 #[.val (.long a), .second, .val (.long b), .second, .val (.long c), .second, .val (.long d), .second, .val (.int flag), .val (.long b2), .second, .val (.long b6), .second, .val (.ref a9), .val (.ref a10), .val (.int b12), .val (.ref g16), .val (.int (0 : Int32)), .val (.int (1 : Int32)), .unset, .unset] [(.int (1 : Int32))] Q_law
                refine wp_istore #[.val (.long a), .second, .val (.long b), .second, .val (.long c), .second, .val (.long d), .second, .val (.int flag), .val (.long b2), .second, .val (.long b6), .second, .val (.ref a9), .val (.ref a10), .val (.int b12), .val (.ref g16), .val (.int (0 : Int32)), .val (.int (1 : Int32)), .val (.int (1 : Int32)), .unset] D_117 rfl ?_
                refine wp_aload D_119 rfl rfl ?_
                refine wp_aload D_121 rfl rfl ?_
                refine wp_virtual (c_eql l Z a0 hw a9 g16 [(a9, oI "com/example/prim_canon/primcanon/compare/Difference" sg_1 [(.long a), (.long b)]), (a10, oI "com/example/prim_canon/primcanon/compare/Difference" sg_1 [(.long b2), (.long b6)])] (exa_old hE_g16) hno) (exa_new (i := 0) rfl) D_123 (hw _ (List.mem_of_getElem? (i := 21) rfl)) (hw _ (List.mem_of_getElem? (i := 22) rfl)) (hw _ (List.mem_of_getElem? (i := 24) rfl)) (hw _ (List.mem_of_getElem? (i := 24) rfl)) (hw _ (List.mem_of_getElem? (i := 23) rfl)) (hw _ (List.mem_of_getElem? (i := 2) rfl)) (hw _ (List.mem_of_getElem? (i := 25) rfl)) (by decide) pd_5 rfl rfl rfl (Nat.le_of_ble_eq_true rfl) (Nat.le_of_ble_eq_true rfl) (Nat.le_of_ble_eq_true rfl) (Nat.le_of_ble_eq_true rfl) ?_
                rintro _ _ ⟨rfl, rfl⟩
                show Wp none l Z "com/example/prim_canon/primcanon/compare/DifferenceEqualsPinLaw" "law" code maxLocals ret room_1 [(a9, oI "com/example/prim_canon/primcanon/compare/Difference" sg_1 [(.long a), (.long b)]), (a10, oI "com/example/prim_canon/primcanon/compare/Difference" sg_1 [(.long b2), (.long b6)])] 3 5 126 #[.val (.long a), .second, .val (.long b), .second, .val (.long c), .second, .val (.long d), .second, .val (.int flag), .val (.long b2), .second, .val (.long b6), .second, .val (.ref a9), .val (.ref a10), .val (.int b12), .val (.ref g16), .val (.int (0 : Int32)), .val (.int (1 : Int32)), .val (.int (1 : Int32)), .unset] [(.int (0 : Int32))] Q_law
                refine wp_istore #[.val (.long a), .second, .val (.long b), .second, .val (.long c), .second, .val (.long d), .second, .val (.int flag), .val (.long b2), .second, .val (.long b6), .second, .val (.ref a9), .val (.ref a10), .val (.int b12), .val (.ref g16), .val (.int (0 : Int32)), .val (.int (1 : Int32)), .val (.int (1 : Int32)), .val (.int (0 : Int32))] D_126 rfl ?_
                refine wp_iload D_128 rfl ?_
                refine wp_iload D_130 rfl ?_
                refine wp_icmp_ne D_132 (pc'' := 156) ⟨by decide, by decide⟩ (fun h28 => ?_) (fun h28 => ?_)
                · skip
                  refine wp_iconst 0 D_156 (by decide) ?_
                  refine wp_ireturnN D_157 rfl (by simp) (by decide) (by decide) ?_
                  exfalso; clear hw S_C A_C hsz hC hno hj3 hj7; rcases hj13 with ⟨q1, q2⟩ | ⟨q1, q2, q3⟩ | ⟨q1, q2, q3⟩ <;> (simp only [Int32.lt_iff_toInt_lt, Int32.le_iff_toInt_le, ← Int32.toInt_inj, Int32.reduceToInt, Int64.lt_iff_toInt_lt, ← Int64.toInt_inj, Int64.reduceToInt] at *; omega)
                · skip
                  refine wp_iload D_135 rfl ?_
                  refine wp_iload D_137 rfl ?_
                  refine wp_icmp_ne D_139 (pc'' := 156) ⟨by decide, by decide⟩ (fun h29 => ?_) (fun h29 => ?_)
                  · skip
                    refine wp_iconst 0 D_156 (by decide) ?_
                    refine wp_ireturnN D_157 rfl (by simp) (by decide) (by decide) ?_
                    exfalso; clear hw S_C A_C hsz hC hno hj3 hj7; rcases hj13 with ⟨q1, q2⟩ | ⟨q1, q2, q3⟩ | ⟨q1, q2, q3⟩ <;> (simp only [Int32.lt_iff_toInt_lt, Int32.le_iff_toInt_le, ← Int32.toInt_inj, Int32.reduceToInt, Int64.lt_iff_toInt_lt, ← Int64.toInt_inj, Int64.reduceToInt] at *; omega)
                  · skip
                    refine wp_iload D_142 rfl ?_
                    refine wp_if_eq D_144 (pc'' := 156) ⟨by decide, by decide⟩ (fun h30 => by exact absurd h30 (by decide)) (fun h30 => ?_)
                    refine wp_iload D_147 rfl ?_
                    refine wp_if_ne D_149 (pc'' := 156) ⟨by decide, by decide⟩ (fun h31 => by exact absurd h31 (by decide)) (fun h31 => ?_)
                    refine wp_iconst 1 D_152 (by decide) ?_
                    refine wp_goto D_153 (pc'' := 157) ⟨by decide, by decide⟩ ?_
                    refine wp_ireturnN D_157 rfl (by simp) (by decide) (by decide) ?_
                    exact rfl
              · rw [if_neg hp27]
                show Wp none l Z "com/example/prim_canon/primcanon/compare/DifferenceEqualsPinLaw" "law" code maxLocals ret room_1 [(a10, oI "com/example/prim_canon/primcanon/compare/Difference" sg_1 [(.long b2), (.long b6)]), (a9, oI "com/example/prim_canon/primcanon/compare/Difference" sg_1 [(.long a), (.long b)])] 3 5 108 #[.val (.long a), .second, .val (.long b), .second, .val (.long c), .second, .val (.long d), .second, .val (.int flag), .val (.long b2), .second, .val (.long b6), .second, .val (.ref a9), .val (.ref a10), .val (.int b12), .val (.ref g16), .val (.int (0 : Int32)), .unset, .unset, .unset] [(.int (0 : Int32))] Q_law
                refine wp_istore #[.val (.long a), .second, .val (.long b), .second, .val (.long c), .second, .val (.long d), .second, .val (.int flag), .val (.long b2), .second, .val (.long b6), .second, .val (.ref a9), .val (.ref a10), .val (.int b12), .val (.ref g16), .val (.int (0 : Int32)), .val (.int (0 : Int32)), .unset, .unset] D_108 rfl ?_
                refine wp_aload D_110 rfl rfl ?_
                refine wp_aload D_112 rfl rfl ?_
                refine Wp.pick [1, 0] (by decide) ?_
                show Wp none l Z "com/example/prim_canon/primcanon/compare/DifferenceEqualsPinLaw" "law" code maxLocals ret room_1 [(a9, oI "com/example/prim_canon/primcanon/compare/Difference" sg_1 [(.long a), (.long b)]), (a10, oI "com/example/prim_canon/primcanon/compare/Difference" sg_1 [(.long b2), (.long b6)])] 3 5 114 #[.val (.long a), .second, .val (.long b), .second, .val (.long c), .second, .val (.long d), .second, .val (.int flag), .val (.long b2), .second, .val (.long b6), .second, .val (.ref a9), .val (.ref a10), .val (.int b12), .val (.ref g16), .val (.int (0 : Int32)), .val (.int (0 : Int32)), .unset, .unset] [(.ref a9), (.ref a9)] Q_law
                refine wp_virtual (c_eqs l Z a0 hw a9 a b [(a10, oI "com/example/prim_canon/primcanon/compare/Difference" sg_1 [(.long b2), (.long b6)])]) (exa_new (i := 0) rfl) D_114 (hw _ (List.mem_of_getElem? (i := 21) rfl)) (hw _ (List.mem_of_getElem? (i := 22) rfl)) (hw _ (List.mem_of_getElem? (i := 24) rfl)) (hw _ (List.mem_of_getElem? (i := 24) rfl)) (hw _ (List.mem_of_getElem? (i := 23) rfl)) (hw _ (List.mem_of_getElem? (i := 2) rfl)) (hw _ (List.mem_of_getElem? (i := 25) rfl)) (by decide) pd_5 rfl rfl rfl (Nat.le_of_ble_eq_true rfl) (Nat.le_of_ble_eq_true rfl) (Nat.le_of_ble_eq_true rfl) (Nat.le_of_ble_eq_true rfl) ?_
                rintro _ _ ⟨rfl, rfl⟩
                show Wp none l Z "com/example/prim_canon/primcanon/compare/DifferenceEqualsPinLaw" "law" code maxLocals ret room_1 [(a9, oI "com/example/prim_canon/primcanon/compare/Difference" sg_1 [(.long a), (.long b)]), (a10, oI "com/example/prim_canon/primcanon/compare/Difference" sg_1 [(.long b2), (.long b6)])] 3 5 117 #[.val (.long a), .second, .val (.long b), .second, .val (.long c), .second, .val (.long d), .second, .val (.int flag), .val (.long b2), .second, .val (.long b6), .second, .val (.ref a9), .val (.ref a10), .val (.int b12), .val (.ref g16), .val (.int (0 : Int32)), .val (.int (0 : Int32)), .unset, .unset] [(.int (1 : Int32))] Q_law
                refine wp_istore #[.val (.long a), .second, .val (.long b), .second, .val (.long c), .second, .val (.long d), .second, .val (.int flag), .val (.long b2), .second, .val (.long b6), .second, .val (.ref a9), .val (.ref a10), .val (.int b12), .val (.ref g16), .val (.int (0 : Int32)), .val (.int (0 : Int32)), .val (.int (1 : Int32)), .unset] D_117 rfl ?_
                refine wp_aload D_119 rfl rfl ?_
                refine wp_aload D_121 rfl rfl ?_
                refine wp_virtual (c_eql l Z a0 hw a9 g16 [(a9, oI "com/example/prim_canon/primcanon/compare/Difference" sg_1 [(.long a), (.long b)]), (a10, oI "com/example/prim_canon/primcanon/compare/Difference" sg_1 [(.long b2), (.long b6)])] (exa_old hE_g16) hno) (exa_new (i := 0) rfl) D_123 (hw _ (List.mem_of_getElem? (i := 21) rfl)) (hw _ (List.mem_of_getElem? (i := 22) rfl)) (hw _ (List.mem_of_getElem? (i := 24) rfl)) (hw _ (List.mem_of_getElem? (i := 24) rfl)) (hw _ (List.mem_of_getElem? (i := 23) rfl)) (hw _ (List.mem_of_getElem? (i := 2) rfl)) (hw _ (List.mem_of_getElem? (i := 25) rfl)) (by decide) pd_5 rfl rfl rfl (Nat.le_of_ble_eq_true rfl) (Nat.le_of_ble_eq_true rfl) (Nat.le_of_ble_eq_true rfl) (Nat.le_of_ble_eq_true rfl) ?_
                rintro _ _ ⟨rfl, rfl⟩
                show Wp none l Z "com/example/prim_canon/primcanon/compare/DifferenceEqualsPinLaw" "law" code maxLocals ret room_1 [(a9, oI "com/example/prim_canon/primcanon/compare/Difference" sg_1 [(.long a), (.long b)]), (a10, oI "com/example/prim_canon/primcanon/compare/Difference" sg_1 [(.long b2), (.long b6)])] 3 5 126 #[.val (.long a), .second, .val (.long b), .second, .val (.long c), .second, .val (.long d), .second, .val (.int flag), .val (.long b2), .second, .val (.long b6), .second, .val (.ref a9), .val (.ref a10), .val (.int b12), .val (.ref g16), .val (.int (0 : Int32)), .val (.int (0 : Int32)), .val (.int (1 : Int32)), .unset] [(.int (0 : Int32))] Q_law
                refine wp_istore #[.val (.long a), .second, .val (.long b), .second, .val (.long c), .second, .val (.long d), .second, .val (.int flag), .val (.long b2), .second, .val (.long b6), .second, .val (.ref a9), .val (.ref a10), .val (.int b12), .val (.ref g16), .val (.int (0 : Int32)), .val (.int (0 : Int32)), .val (.int (1 : Int32)), .val (.int (0 : Int32))] D_126 rfl ?_
                refine wp_iload D_128 rfl ?_
                refine wp_iload D_130 rfl ?_
                refine wp_icmp_ne D_132 (pc'' := 156) ⟨by decide, by decide⟩ (fun h32 => ?_) (fun h32 => ?_)
                · skip
                  refine wp_iconst 0 D_156 (by decide) ?_
                  refine wp_ireturnN D_157 rfl (by simp) (by decide) (by decide) ?_
                  exfalso; clear hw S_C A_C hsz hC hno hj3 hj7; rcases hj13 with ⟨q1, q2⟩ | ⟨q1, q2, q3⟩ | ⟨q1, q2, q3⟩ <;> (simp only [Int32.lt_iff_toInt_lt, Int32.le_iff_toInt_le, ← Int32.toInt_inj, Int32.reduceToInt, Int64.lt_iff_toInt_lt, ← Int64.toInt_inj, Int64.reduceToInt] at *; omega)
                · skip
                  refine wp_iload D_135 rfl ?_
                  refine wp_iload D_137 rfl ?_
                  refine wp_icmp_ne D_139 (pc'' := 156) ⟨by decide, by decide⟩ (fun h33 => ?_) (fun h33 => ?_)
                  · skip
                    refine wp_iconst 0 D_156 (by decide) ?_
                    refine wp_ireturnN D_157 rfl (by simp) (by decide) (by decide) ?_
                    exfalso; clear hw S_C A_C hsz hC hno hj3 hj7; rcases hj13 with ⟨q1, q2⟩ | ⟨q1, q2, q3⟩ | ⟨q1, q2, q3⟩ <;> (simp only [Int32.lt_iff_toInt_lt, Int32.le_iff_toInt_le, ← Int32.toInt_inj, Int32.reduceToInt, Int64.lt_iff_toInt_lt, ← Int64.toInt_inj, Int64.reduceToInt] at *; omega)
                  · skip
                    refine wp_iload D_142 rfl ?_
                    refine wp_if_eq D_144 (pc'' := 156) ⟨by decide, by decide⟩ (fun h34 => by exact absurd h34 (by decide)) (fun h34 => ?_)
                    refine wp_iload D_147 rfl ?_
                    refine wp_if_ne D_149 (pc'' := 156) ⟨by decide, by decide⟩ (fun h35 => by exact absurd h35 (by decide)) (fun h35 => ?_)
                    refine wp_iconst 1 D_152 (by decide) ?_
                    refine wp_goto D_153 (pc'' := 157) ⟨by decide, by decide⟩ ?_
                    refine wp_ireturnN D_157 rfl (by simp) (by decide) (by decide) ?_
                    exact rfl
          · skip
            show Wp none l Z "com/example/prim_canon/primcanon/compare/DifferenceEqualsPinLaw" "law" code maxLocals ret room_1 [(g16, oI "java/lang/Long" sg_2 [(.long a)]), (a10, oI "com/example/prim_canon/primcanon/compare/Difference" sg_1 [(.long b2), (.long b6)]), (a9, oI "com/example/prim_canon/primcanon/compare/Difference" sg_1 [(.long a), (.long b)])] 3 5 90 #[.val (.long a), .second, .val (.long b), .second, .val (.long c), .second, .val (.long d), .second, .val (.int flag), .val (.long b2), .second, .val (.long b6), .second, .val (.ref a9), .val (.ref a10), .val (.int b12), .unset, .unset, .unset, .unset, .unset] [(.ref g16)] Q_law
            refine wp_astore #[.val (.long a), .second, .val (.long b), .second, .val (.long c), .second, .val (.long d), .second, .val (.int flag), .val (.long b2), .second, .val (.long b6), .second, .val (.ref a9), .val (.ref a10), .val (.int b12), .val (.ref g16), .unset, .unset, .unset, .unset] D_90 rfl rfl ?_
            refine wp_aload D_92 rfl rfl ?_
            refine wp_aload D_94 rfl rfl ?_
            refine Wp.pick [2, 1, 0] (by decide) ?_
            show Wp none l Z "com/example/prim_canon/primcanon/compare/DifferenceEqualsPinLaw" "law" code maxLocals ret room_1 [(a9, oI "com/example/prim_canon/primcanon/compare/Difference" sg_1 [(.long a), (.long b)]), (a10, oI "com/example/prim_canon/primcanon/compare/Difference" sg_1 [(.long b2), (.long b6)]), (g16, oI "java/lang/Long" sg_2 [(.long a)])] 3 5 96 #[.val (.long a), .second, .val (.long b), .second, .val (.long c), .second, .val (.long d), .second, .val (.int flag), .val (.long b2), .second, .val (.long b6), .second, .val (.ref a9), .val (.ref a10), .val (.int b12), .val (.ref g16), .unset, .unset, .unset, .unset] [(.ref a10), (.ref a9)] Q_law
            refine wp_virtual (c_eq l Z a0 hw a9 a10 a b b2 b6 [(g16, oI "java/lang/Long" sg_2 [(.long a)])]) (exa_new (i := 0) rfl) D_96 (hw _ (List.mem_of_getElem? (i := 21) rfl)) (hw _ (List.mem_of_getElem? (i := 22) rfl)) (hw _ (List.mem_of_getElem? (i := 24) rfl)) (hw _ (List.mem_of_getElem? (i := 24) rfl)) (hw _ (List.mem_of_getElem? (i := 23) rfl)) (hw _ (List.mem_of_getElem? (i := 2) rfl)) (hw _ (List.mem_of_getElem? (i := 25) rfl)) (by decide) pd_5 rfl rfl rfl (Nat.le_of_ble_eq_true rfl) (Nat.le_of_ble_eq_true rfl) (Nat.le_of_ble_eq_true rfl) (Nat.le_of_ble_eq_true rfl) ?_
            rintro _ _ ⟨rfl, rfl⟩
            by_cases hp36 : a = b2 ∧ b = b6
            · rw [if_pos hp36]
              show Wp none l Z "com/example/prim_canon/primcanon/compare/DifferenceEqualsPinLaw" "law" code maxLocals ret room_1 [(a9, oI "com/example/prim_canon/primcanon/compare/Difference" sg_1 [(.long a), (.long b)]), (a10, oI "com/example/prim_canon/primcanon/compare/Difference" sg_1 [(.long b2), (.long b6)]), (g16, oI "java/lang/Long" sg_2 [(.long a)])] 3 5 99 #[.val (.long a), .second, .val (.long b), .second, .val (.long c), .second, .val (.long d), .second, .val (.int flag), .val (.long b2), .second, .val (.long b6), .second, .val (.ref a9), .val (.ref a10), .val (.int b12), .val (.ref g16), .unset, .unset, .unset, .unset] [(.int (1 : Int32))] Q_law
              refine wp_istore #[.val (.long a), .second, .val (.long b), .second, .val (.long c), .second, .val (.long d), .second, .val (.int flag), .val (.long b2), .second, .val (.long b6), .second, .val (.ref a9), .val (.ref a10), .val (.int b12), .val (.ref g16), .val (.int (1 : Int32)), .unset, .unset, .unset] D_99 rfl ?_
              refine wp_aload D_101 rfl rfl ?_
              refine wp_aload D_103 rfl rfl ?_
              refine Wp.pick [1, 0, 2] (by decide) ?_
              show Wp none l Z "com/example/prim_canon/primcanon/compare/DifferenceEqualsPinLaw" "law" code maxLocals ret room_1 [(a10, oI "com/example/prim_canon/primcanon/compare/Difference" sg_1 [(.long b2), (.long b6)]), (a9, oI "com/example/prim_canon/primcanon/compare/Difference" sg_1 [(.long a), (.long b)]), (g16, oI "java/lang/Long" sg_2 [(.long a)])] 3 5 105 #[.val (.long a), .second, .val (.long b), .second, .val (.long c), .second, .val (.long d), .second, .val (.int flag), .val (.long b2), .second, .val (.long b6), .second, .val (.ref a9), .val (.ref a10), .val (.int b12), .val (.ref g16), .val (.int (1 : Int32)), .unset, .unset, .unset] [(.ref a9), (.ref a10)] Q_law
              refine wp_virtual (c_eq l Z a0 hw a10 a9 b2 b6 a b [(g16, oI "java/lang/Long" sg_2 [(.long a)])]) (exa_new (i := 0) rfl) D_105 (hw _ (List.mem_of_getElem? (i := 21) rfl)) (hw _ (List.mem_of_getElem? (i := 22) rfl)) (hw _ (List.mem_of_getElem? (i := 24) rfl)) (hw _ (List.mem_of_getElem? (i := 24) rfl)) (hw _ (List.mem_of_getElem? (i := 23) rfl)) (hw _ (List.mem_of_getElem? (i := 2) rfl)) (hw _ (List.mem_of_getElem? (i := 25) rfl)) (by decide) pd_5 rfl rfl rfl (Nat.le_of_ble_eq_true rfl) (Nat.le_of_ble_eq_true rfl) (Nat.le_of_ble_eq_true rfl) (Nat.le_of_ble_eq_true rfl) ?_
              rintro _ _ ⟨rfl, rfl⟩
              by_cases hp37 : b2 = a ∧ b6 = b
              · rw [if_pos hp37]
                show Wp none l Z "com/example/prim_canon/primcanon/compare/DifferenceEqualsPinLaw" "law" code maxLocals ret room_1 [(a10, oI "com/example/prim_canon/primcanon/compare/Difference" sg_1 [(.long b2), (.long b6)]), (a9, oI "com/example/prim_canon/primcanon/compare/Difference" sg_1 [(.long a), (.long b)]), (g16, oI "java/lang/Long" sg_2 [(.long a)])] 3 5 108 #[.val (.long a), .second, .val (.long b), .second, .val (.long c), .second, .val (.long d), .second, .val (.int flag), .val (.long b2), .second, .val (.long b6), .second, .val (.ref a9), .val (.ref a10), .val (.int b12), .val (.ref g16), .val (.int (1 : Int32)), .unset, .unset, .unset] [(.int (1 : Int32))] Q_law
                refine wp_istore #[.val (.long a), .second, .val (.long b), .second, .val (.long c), .second, .val (.long d), .second, .val (.int flag), .val (.long b2), .second, .val (.long b6), .second, .val (.ref a9), .val (.ref a10), .val (.int b12), .val (.ref g16), .val (.int (1 : Int32)), .val (.int (1 : Int32)), .unset, .unset] D_108 rfl ?_
                refine wp_aload D_110 rfl rfl ?_
                refine wp_aload D_112 rfl rfl ?_
                refine Wp.pick [1, 0, 2] (by decide) ?_
                show Wp none l Z "com/example/prim_canon/primcanon/compare/DifferenceEqualsPinLaw" "law" code maxLocals ret room_1 [(a9, oI "com/example/prim_canon/primcanon/compare/Difference" sg_1 [(.long a), (.long b)]), (a10, oI "com/example/prim_canon/primcanon/compare/Difference" sg_1 [(.long b2), (.long b6)]), (g16, oI "java/lang/Long" sg_2 [(.long a)])] 3 5 114 #[.val (.long a), .second, .val (.long b), .second, .val (.long c), .second, .val (.long d), .second, .val (.int flag), .val (.long b2), .second, .val (.long b6), .second, .val (.ref a9), .val (.ref a10), .val (.int b12), .val (.ref g16), .val (.int (1 : Int32)), .val (.int (1 : Int32)), .unset, .unset] [(.ref a9), (.ref a9)] Q_law
                refine wp_virtual (c_eqs l Z a0 hw a9 a b [(a10, oI "com/example/prim_canon/primcanon/compare/Difference" sg_1 [(.long b2), (.long b6)]), (g16, oI "java/lang/Long" sg_2 [(.long a)])]) (exa_new (i := 0) rfl) D_114 (hw _ (List.mem_of_getElem? (i := 21) rfl)) (hw _ (List.mem_of_getElem? (i := 22) rfl)) (hw _ (List.mem_of_getElem? (i := 24) rfl)) (hw _ (List.mem_of_getElem? (i := 24) rfl)) (hw _ (List.mem_of_getElem? (i := 23) rfl)) (hw _ (List.mem_of_getElem? (i := 2) rfl)) (hw _ (List.mem_of_getElem? (i := 25) rfl)) (by decide) pd_5 rfl rfl rfl (Nat.le_of_ble_eq_true rfl) (Nat.le_of_ble_eq_true rfl) (Nat.le_of_ble_eq_true rfl) (Nat.le_of_ble_eq_true rfl) ?_
                rintro _ _ ⟨rfl, rfl⟩
                show Wp none l Z "com/example/prim_canon/primcanon/compare/DifferenceEqualsPinLaw" "law" code maxLocals ret room_1 [(a9, oI "com/example/prim_canon/primcanon/compare/Difference" sg_1 [(.long a), (.long b)]), (a10, oI "com/example/prim_canon/primcanon/compare/Difference" sg_1 [(.long b2), (.long b6)]), (g16, oI "java/lang/Long" sg_2 [(.long a)])] 3 5 117 #[.val (.long a), .second, .val (.long b), .second, .val (.long c), .second, .val (.long d), .second, .val (.int flag), .val (.long b2), .second, .val (.long b6), .second, .val (.ref a9), .val (.ref a10), .val (.int b12), .val (.ref g16), .val (.int (1 : Int32)), .val (.int (1 : Int32)), .unset, .unset] [(.int (1 : Int32))] Q_law
                refine wp_istore #[.val (.long a), .second, .val (.long b), .second, .val (.long c), .second, .val (.long d), .second, .val (.int flag), .val (.long b2), .second, .val (.long b6), .second, .val (.ref a9), .val (.ref a10), .val (.int b12), .val (.ref g16), .val (.int (1 : Int32)), .val (.int (1 : Int32)), .val (.int (1 : Int32)), .unset] D_117 rfl ?_
                refine wp_aload D_119 rfl rfl ?_
                refine wp_aload D_121 rfl rfl ?_
                refine wp_virtual (c_eql l Z a0 hw a9 g16 [(a9, oI "com/example/prim_canon/primcanon/compare/Difference" sg_1 [(.long a), (.long b)]), (a10, oI "com/example/prim_canon/primcanon/compare/Difference" sg_1 [(.long b2), (.long b6)]), (g16, oI "java/lang/Long" sg_2 [(.long a)])] (exa_new (i := 2) rfl) hno) (exa_new (i := 0) rfl) D_123 (hw _ (List.mem_of_getElem? (i := 21) rfl)) (hw _ (List.mem_of_getElem? (i := 22) rfl)) (hw _ (List.mem_of_getElem? (i := 24) rfl)) (hw _ (List.mem_of_getElem? (i := 24) rfl)) (hw _ (List.mem_of_getElem? (i := 23) rfl)) (hw _ (List.mem_of_getElem? (i := 2) rfl)) (hw _ (List.mem_of_getElem? (i := 25) rfl)) (by decide) pd_5 rfl rfl rfl (Nat.le_of_ble_eq_true rfl) (Nat.le_of_ble_eq_true rfl) (Nat.le_of_ble_eq_true rfl) (Nat.le_of_ble_eq_true rfl) ?_
                rintro _ _ ⟨rfl, rfl⟩
                show Wp none l Z "com/example/prim_canon/primcanon/compare/DifferenceEqualsPinLaw" "law" code maxLocals ret room_1 [(a9, oI "com/example/prim_canon/primcanon/compare/Difference" sg_1 [(.long a), (.long b)]), (a10, oI "com/example/prim_canon/primcanon/compare/Difference" sg_1 [(.long b2), (.long b6)]), (g16, oI "java/lang/Long" sg_2 [(.long a)])] 3 5 126 #[.val (.long a), .second, .val (.long b), .second, .val (.long c), .second, .val (.long d), .second, .val (.int flag), .val (.long b2), .second, .val (.long b6), .second, .val (.ref a9), .val (.ref a10), .val (.int b12), .val (.ref g16), .val (.int (1 : Int32)), .val (.int (1 : Int32)), .val (.int (1 : Int32)), .unset] [(.int (0 : Int32))] Q_law
                refine wp_istore #[.val (.long a), .second, .val (.long b), .second, .val (.long c), .second, .val (.long d), .second, .val (.int flag), .val (.long b2), .second, .val (.long b6), .second, .val (.ref a9), .val (.ref a10), .val (.int b12), .val (.ref g16), .val (.int (1 : Int32)), .val (.int (1 : Int32)), .val (.int (1 : Int32)), .val (.int (0 : Int32))] D_126 rfl ?_
                refine wp_iload D_128 rfl ?_
                refine wp_iload D_130 rfl ?_
                refine wp_icmp_ne D_132 (pc'' := 156) ⟨by decide, by decide⟩ (fun h38 => ?_) (fun h38 => ?_)
                · skip
                  refine wp_iconst 0 D_156 (by decide) ?_
                  refine wp_ireturnN D_157 rfl (by simp) (by decide) (by decide) ?_
                  exfalso; clear hw S_C A_C hsz hC hno hj3 hj7; rcases hj13 with ⟨q1, q2⟩ | ⟨q1, q2, q3⟩ | ⟨q1, q2, q3⟩ <;> (simp only [Int32.lt_iff_toInt_lt, Int32.le_iff_toInt_le, ← Int32.toInt_inj, Int32.reduceToInt, Int64.lt_iff_toInt_lt, ← Int64.toInt_inj, Int64.reduceToInt] at *; omega)
                · skip
                  refine wp_iload D_135 rfl ?_
                  refine wp_iload D_137 rfl ?_
                  refine wp_icmp_ne D_139 (pc'' := 156) ⟨by decide, by decide⟩ (fun h39 => ?_) (fun h39 => ?_)
                  · skip
                    refine wp_iconst 0 D_156 (by decide) ?_
                    refine wp_ireturnN D_157 rfl (by simp) (by decide) (by decide) ?_
                    exfalso; clear hw S_C A_C hsz hC hno hj3 hj7; rcases hj13 with ⟨q1, q2⟩ | ⟨q1, q2, q3⟩ | ⟨q1, q2, q3⟩ <;> (simp only [Int32.lt_iff_toInt_lt, Int32.le_iff_toInt_le, ← Int32.toInt_inj, Int32.reduceToInt, Int64.lt_iff_toInt_lt, ← Int64.toInt_inj, Int64.reduceToInt] at *; omega)
                  · skip
                    refine wp_iload D_142 rfl ?_
                    refine wp_if_eq D_144 (pc'' := 156) ⟨by decide, by decide⟩ (fun h40 => by exact absurd h40 (by decide)) (fun h40 => ?_)
                    refine wp_iload D_147 rfl ?_
                    refine wp_if_ne D_149 (pc'' := 156) ⟨by decide, by decide⟩ (fun h41 => by exact absurd h41 (by decide)) (fun h41 => ?_)
                    refine wp_iconst 1 D_152 (by decide) ?_
                    refine wp_goto D_153 (pc'' := 157) ⟨by decide, by decide⟩ ?_
                    refine wp_ireturnN D_157 rfl (by simp) (by decide) (by decide) ?_
                    exact rfl
              · rw [if_neg hp37]
                show Wp none l Z "com/example/prim_canon/primcanon/compare/DifferenceEqualsPinLaw" "law" code maxLocals ret room_1 [(a10, oI "com/example/prim_canon/primcanon/compare/Difference" sg_1 [(.long b2), (.long b6)]), (a9, oI "com/example/prim_canon/primcanon/compare/Difference" sg_1 [(.long a), (.long b)]), (g16, oI "java/lang/Long" sg_2 [(.long a)])] 3 5 108 #[.val (.long a), .second, .val (.long b), .second, .val (.long c), .second, .val (.long d), .second, .val (.int flag), .val (.long b2), .second, .val (.long b6), .second, .val (.ref a9), .val (.ref a10), .val (.int b12), .val (.ref g16), .val (.int (1 : Int32)), .unset, .unset, .unset] [(.int (0 : Int32))] Q_law
                refine wp_istore #[.val (.long a), .second, .val (.long b), .second, .val (.long c), .second, .val (.long d), .second, .val (.int flag), .val (.long b2), .second, .val (.long b6), .second, .val (.ref a9), .val (.ref a10), .val (.int b12), .val (.ref g16), .val (.int (1 : Int32)), .val (.int (0 : Int32)), .unset, .unset] D_108 rfl ?_
                refine wp_aload D_110 rfl rfl ?_
                refine wp_aload D_112 rfl rfl ?_
                refine Wp.pick [1, 0, 2] (by decide) ?_
                show Wp none l Z "com/example/prim_canon/primcanon/compare/DifferenceEqualsPinLaw" "law" code maxLocals ret room_1 [(a9, oI "com/example/prim_canon/primcanon/compare/Difference" sg_1 [(.long a), (.long b)]), (a10, oI "com/example/prim_canon/primcanon/compare/Difference" sg_1 [(.long b2), (.long b6)]), (g16, oI "java/lang/Long" sg_2 [(.long a)])] 3 5 114 #[.val (.long a), .second, .val (.long b), .second, .val (.long c), .second, .val (.long d), .second, .val (.int flag), .val (.long b2), .second, .val (.long b6), .second, .val (.ref a9), .val (.ref a10), .val (.int b12), .val (.ref g16), .val (.int (1 : Int32)), .val (.int (0 : Int32)), .unset, .unset] [(.ref a9), (.ref a9)] Q_law
                refine wp_virtual (c_eqs l Z a0 hw a9 a b [(a10, oI "com/example/prim_canon/primcanon/compare/Difference" sg_1 [(.long b2), (.long b6)]), (g16, oI "java/lang/Long" sg_2 [(.long a)])]) (exa_new (i := 0) rfl) D_114 (hw _ (List.mem_of_getElem? (i := 21) rfl)) (hw _ (List.mem_of_getElem? (i := 22) rfl)) (hw _ (List.mem_of_getElem? (i := 24) rfl)) (hw _ (List.mem_of_getElem? (i := 24) rfl)) (hw _ (List.mem_of_getElem? (i := 23) rfl)) (hw _ (List.mem_of_getElem? (i := 2) rfl)) (hw _ (List.mem_of_getElem? (i := 25) rfl)) (by decide) pd_5 rfl rfl rfl (Nat.le_of_ble_eq_true rfl) (Nat.le_of_ble_eq_true rfl) (Nat.le_of_ble_eq_true rfl) (Nat.le_of_ble_eq_true rfl) ?_
                rintro _ _ ⟨rfl, rfl⟩
                show Wp none l Z "com/example/prim_canon/primcanon/compare/DifferenceEqualsPinLaw" "law" code maxLocals ret room_1 [(a9, oI "com/example/prim_canon/primcanon/compare/Difference" sg_1 [(.long a), (.long b)]), (a10, oI "com/example/prim_canon/primcanon/compare/Difference" sg_1 [(.long b2), (.long b6)]), (g16, oI "java/lang/Long" sg_2 [(.long a)])] 3 5 117 #[.val (.long a), .second, .val (.long b), .second, .val (.long c), .second, .val (.long d), .second, .val (.int flag), .val (.long b2), .second, .val (.long b6), .second, .val (.ref a9), .val (.ref a10), .val (.int b12), .val (.ref g16), .val (.int (1 : Int32)), .val (.int (0 : Int32)), .unset, .unset] [(.int (1 : Int32))] Q_law
                refine wp_istore #[.val (.long a), .second, .val (.long b), .second, .val (.long c), .second, .val (.long d), .second, .val (.int flag), .val (.long b2), .second, .val (.long b6), .second, .val (.ref a9), .val (.ref a10), .val (.int b12), .val (.ref g16), .val (.int (1 : Int32)), .val (.int (0 : Int32)), .val (.int (1 : Int32)), .unset] D_117 rfl ?_
                refine wp_aload D_119 rfl rfl ?_
                refine wp_aload D_121 rfl rfl ?_
                refine wp_virtual (c_eql l Z a0 hw a9 g16 [(a9, oI "com/example/prim_canon/primcanon/compare/Difference" sg_1 [(.long a), (.long b)]), (a10, oI "com/example/prim_canon/primcanon/compare/Difference" sg_1 [(.long b2), (.long b6)]), (g16, oI "java/lang/Long" sg_2 [(.long a)])] (exa_new (i := 2) rfl) hno) (exa_new (i := 0) rfl) D_123 (hw _ (List.mem_of_getElem? (i := 21) rfl)) (hw _ (List.mem_of_getElem? (i := 22) rfl)) (hw _ (List.mem_of_getElem? (i := 24) rfl)) (hw _ (List.mem_of_getElem? (i := 24) rfl)) (hw _ (List.mem_of_getElem? (i := 23) rfl)) (hw _ (List.mem_of_getElem? (i := 2) rfl)) (hw _ (List.mem_of_getElem? (i := 25) rfl)) (by decide) pd_5 rfl rfl rfl (Nat.le_of_ble_eq_true rfl) (Nat.le_of_ble_eq_true rfl) (Nat.le_of_ble_eq_true rfl) (Nat.le_of_ble_eq_true rfl) ?_
                rintro _ _ ⟨rfl, rfl⟩
                show Wp none l Z "com/example/prim_canon/primcanon/compare/DifferenceEqualsPinLaw" "law" code maxLocals ret room_1 [(a9, oI "com/example/prim_canon/primcanon/compare/Difference" sg_1 [(.long a), (.long b)]), (a10, oI "com/example/prim_canon/primcanon/compare/Difference" sg_1 [(.long b2), (.long b6)]), (g16, oI "java/lang/Long" sg_2 [(.long a)])] 3 5 126 #[.val (.long a), .second, .val (.long b), .second, .val (.long c), .second, .val (.long d), .second, .val (.int flag), .val (.long b2), .second, .val (.long b6), .second, .val (.ref a9), .val (.ref a10), .val (.int b12), .val (.ref g16), .val (.int (1 : Int32)), .val (.int (0 : Int32)), .val (.int (1 : Int32)), .unset] [(.int (0 : Int32))] Q_law
                refine wp_istore #[.val (.long a), .second, .val (.long b), .second, .val (.long c), .second, .val (.long d), .second, .val (.int flag), .val (.long b2), .second, .val (.long b6), .second, .val (.ref a9), .val (.ref a10), .val (.int b12), .val (.ref g16), .val (.int (1 : Int32)), .val (.int (0 : Int32)), .val (.int (1 : Int32)), .val (.int (0 : Int32))] D_126 rfl ?_
                refine wp_iload D_128 rfl ?_
                refine wp_iload D_130 rfl ?_
                refine wp_icmp_ne D_132 (pc'' := 156) ⟨by decide, by decide⟩ (fun h42 => ?_) (fun h42 => ?_)
                · skip
                  refine wp_iconst 0 D_156 (by decide) ?_
                  refine wp_ireturnN D_157 rfl (by simp) (by decide) (by decide) ?_
                  exfalso; clear hw S_C A_C hsz hC hno hj3 hj7; rcases hj13 with ⟨q1, q2⟩ | ⟨q1, q2, q3⟩ | ⟨q1, q2, q3⟩ <;> (simp only [Int32.lt_iff_toInt_lt, Int32.le_iff_toInt_le, ← Int32.toInt_inj, Int32.reduceToInt, Int64.lt_iff_toInt_lt, ← Int64.toInt_inj, Int64.reduceToInt] at *; omega)
                · skip
                  refine wp_iload D_135 rfl ?_
                  refine wp_iload D_137 rfl ?_
                  refine wp_icmp_ne D_139 (pc'' := 156) ⟨by decide, by decide⟩ (fun h43 => ?_) (fun h43 => ?_)
                  · skip
                    refine wp_iconst 0 D_156 (by decide) ?_
                    refine wp_ireturnN D_157 rfl (by simp) (by decide) (by decide) ?_
                    exfalso; clear hw S_C A_C hsz hC hno hj3 hj7; rcases hj13 with ⟨q1, q2⟩ | ⟨q1, q2, q3⟩ | ⟨q1, q2, q3⟩ <;> (simp only [Int32.lt_iff_toInt_lt, Int32.le_iff_toInt_le, ← Int32.toInt_inj, Int32.reduceToInt, Int64.lt_iff_toInt_lt, ← Int64.toInt_inj, Int64.reduceToInt] at *; omega)
                  · skip
                    refine wp_iload D_142 rfl ?_
                    refine wp_if_eq D_144 (pc'' := 156) ⟨by decide, by decide⟩ (fun h44 => by exact absurd h44 (by decide)) (fun h44 => ?_)
                    refine wp_iload D_147 rfl ?_
                    refine wp_if_ne D_149 (pc'' := 156) ⟨by decide, by decide⟩ (fun h45 => by exact absurd h45 (by decide)) (fun h45 => ?_)
                    refine wp_iconst 1 D_152 (by decide) ?_
                    refine wp_goto D_153 (pc'' := 157) ⟨by decide, by decide⟩ ?_
                    refine wp_ireturnN D_157 rfl (by simp) (by decide) (by decide) ?_
                    exact rfl
            · rw [if_neg hp36]
              show Wp none l Z "com/example/prim_canon/primcanon/compare/DifferenceEqualsPinLaw" "law" code maxLocals ret room_1 [(a9, oI "com/example/prim_canon/primcanon/compare/Difference" sg_1 [(.long a), (.long b)]), (a10, oI "com/example/prim_canon/primcanon/compare/Difference" sg_1 [(.long b2), (.long b6)]), (g16, oI "java/lang/Long" sg_2 [(.long a)])] 3 5 99 #[.val (.long a), .second, .val (.long b), .second, .val (.long c), .second, .val (.long d), .second, .val (.int flag), .val (.long b2), .second, .val (.long b6), .second, .val (.ref a9), .val (.ref a10), .val (.int b12), .val (.ref g16), .unset, .unset, .unset, .unset] [(.int (0 : Int32))] Q_law
              refine wp_istore #[.val (.long a), .second, .val (.long b), .second, .val (.long c), .second, .val (.long d), .second, .val (.int flag), .val (.long b2), .second, .val (.long b6), .second, .val (.ref a9), .val (.ref a10), .val (.int b12), .val (.ref g16), .val (.int (0 : Int32)), .unset, .unset, .unset] D_99 rfl ?_
              refine wp_aload D_101 rfl rfl ?_
              refine wp_aload D_103 rfl rfl ?_
              refine Wp.pick [1, 0, 2] (by decide) ?_
              show Wp none l Z "com/example/prim_canon/primcanon/compare/DifferenceEqualsPinLaw" "law" code maxLocals ret room_1 [(a10, oI "com/example/prim_canon/primcanon/compare/Difference" sg_1 [(.long b2), (.long b6)]), (a9, oI "com/example/prim_canon/primcanon/compare/Difference" sg_1 [(.long a), (.long b)]), (g16, oI "java/lang/Long" sg_2 [(.long a)])] 3 5 105 #[.val (.long a), .second, .val (.long b), .second, .val (.long c), .second, .val (.long d), .second, .val (.int flag), .val (.long b2), .second, .val (.long b6), .second, .val (.ref a9), .val (.ref a10), .val (.int b12), .val (.ref g16), .val (.int (0 : Int32)), .unset, .unset, .unset] [(.ref a9), (.ref a10)] Q_law
              refine wp_virtual (c_eq l Z a0 hw a10 a9 b2 b6 a b [(g16, oI "java/lang/Long" sg_2 [(.long a)])]) (exa_new (i := 0) rfl) D_105 (hw _ (List.mem_of_getElem? (i := 21) rfl)) (hw _ (List.mem_of_getElem? (i := 22) rfl)) (hw _ (List.mem_of_getElem? (i := 24) rfl)) (hw _ (List.mem_of_getElem? (i := 24) rfl)) (hw _ (List.mem_of_getElem? (i := 23) rfl)) (hw _ (List.mem_of_getElem? (i := 2) rfl)) (hw _ (List.mem_of_getElem? (i := 25) rfl)) (by decide) pd_5 rfl rfl rfl (Nat.le_of_ble_eq_true rfl) (Nat.le_of_ble_eq_true rfl) (Nat.le_of_ble_eq_true rfl) (Nat.le_of_ble_eq_true rfl) ?_
              rintro _ _ ⟨rfl, rfl⟩
              by_cases hp46 : b2 = a ∧ b6 = b
              · rw [if_pos hp46]
                show Wp none l Z "com/example/prim_canon/primcanon/compare/DifferenceEqualsPinLaw" "law" code maxLocals ret room_1 [(a10, oI "com/example/prim_canon/primcanon/compare/Difference" sg_1 [(.long b2), (.long b6)]), (a9, oI "com/example/prim_canon/primcanon/compare/Difference" sg_1 [(.long a), (.long b)]), (g16, oI "java/lang/Long" sg_2 [(.long a)])] 3 5 108 #[.val (.long a), .second, .val (.long b), .second, .val (.long c), .second, .val (.long d), .second, .val (.int flag), .val (.long b2), .second, .val (.long b6), .second, .val (.ref a9), .val (.ref a10), .val (.int b12), .val (.ref g16), .val (.int (0 : Int32)), .unset, .unset, .unset] [(.int (1 : Int32))] Q_law
                refine wp_istore #[.val (.long a), .second, .val (.long b), .second, .val (.long c), .second, .val (.long d), .second, .val (.int flag), .val (.long b2), .second, .val (.long b6), .second, .val (.ref a9), .val (.ref a10), .val (.int b12), .val (.ref g16), .val (.int (0 : Int32)), .val (.int (1 : Int32)), .unset, .unset] D_108 rfl ?_
                refine wp_aload D_110 rfl rfl ?_
                refine wp_aload D_112 rfl rfl ?_
                refine Wp.pick [1, 0, 2] (by decide) ?_
                show Wp none l Z "com/example/prim_canon/primcanon/compare/DifferenceEqualsPinLaw" "law" code maxLocals ret room_1 [(a9, oI "com/example/prim_canon/primcanon/compare/Difference" sg_1 [(.long a), (.long b)]), (a10, oI "com/example/prim_canon/primcanon/compare/Difference" sg_1 [(.long b2), (.long b6)]), (g16, oI "java/lang/Long" sg_2 [(.long a)])] 3 5 114 #[.val (.long a), .second, .val (.long b), .second, .val (.long c), .second, .val (.long d), .second, .val (.int flag), .val (.long b2), .second, .val (.long b6), .second, .val (.ref a9), .val (.ref a10), .val (.int b12), .val (.ref g16), .val (.int (0 : Int32)), .val (.int (1 : Int32)), .unset, .unset] [(.ref a9), (.ref a9)] Q_law
                refine wp_virtual (c_eqs l Z a0 hw a9 a b [(a10, oI "com/example/prim_canon/primcanon/compare/Difference" sg_1 [(.long b2), (.long b6)]), (g16, oI "java/lang/Long" sg_2 [(.long a)])]) (exa_new (i := 0) rfl) D_114 (hw _ (List.mem_of_getElem? (i := 21) rfl)) (hw _ (List.mem_of_getElem? (i := 22) rfl)) (hw _ (List.mem_of_getElem? (i := 24) rfl)) (hw _ (List.mem_of_getElem? (i := 24) rfl)) (hw _ (List.mem_of_getElem? (i := 23) rfl)) (hw _ (List.mem_of_getElem? (i := 2) rfl)) (hw _ (List.mem_of_getElem? (i := 25) rfl)) (by decide) pd_5 rfl rfl rfl (Nat.le_of_ble_eq_true rfl) (Nat.le_of_ble_eq_true rfl) (Nat.le_of_ble_eq_true rfl) (Nat.le_of_ble_eq_true rfl) ?_
                rintro _ _ ⟨rfl, rfl⟩
                show Wp none l Z "com/example/prim_canon/primcanon/compare/DifferenceEqualsPinLaw" "law" code maxLocals ret room_1 [(a9, oI "com/example/prim_canon/primcanon/compare/Difference" sg_1 [(.long a), (.long b)]), (a10, oI "com/example/prim_canon/primcanon/compare/Difference" sg_1 [(.long b2), (.long b6)]), (g16, oI "java/lang/Long" sg_2 [(.long a)])] 3 5 117 #[.val (.long a), .second, .val (.long b), .second, .val (.long c), .second, .val (.long d), .second, .val (.int flag), .val (.long b2), .second, .val (.long b6), .second, .val (.ref a9), .val (.ref a10), .val (.int b12), .val (.ref g16), .val (.int (0 : Int32)), .val (.int (1 : Int32)), .unset, .unset] [(.int (1 : Int32))] Q_law
                refine wp_istore #[.val (.long a), .second, .val (.long b), .second, .val (.long c), .second, .val (.long d), .second, .val (.int flag), .val (.long b2), .second, .val (.long b6), .second, .val (.ref a9), .val (.ref a10), .val (.int b12), .val (.ref g16), .val (.int (0 : Int32)), .val (.int (1 : Int32)), .val (.int (1 : Int32)), .unset] D_117 rfl ?_
                refine wp_aload D_119 rfl rfl ?_
                refine wp_aload D_121 rfl rfl ?_
                refine wp_virtual (c_eql l Z a0 hw a9 g16 [(a9, oI "com/example/prim_canon/primcanon/compare/Difference" sg_1 [(.long a), (.long b)]), (a10, oI "com/example/prim_canon/primcanon/compare/Difference" sg_1 [(.long b2), (.long b6)]), (g16, oI "java/lang/Long" sg_2 [(.long a)])] (exa_new (i := 2) rfl) hno) (exa_new (i := 0) rfl) D_123 (hw _ (List.mem_of_getElem? (i := 21) rfl)) (hw _ (List.mem_of_getElem? (i := 22) rfl)) (hw _ (List.mem_of_getElem? (i := 24) rfl)) (hw _ (List.mem_of_getElem? (i := 24) rfl)) (hw _ (List.mem_of_getElem? (i := 23) rfl)) (hw _ (List.mem_of_getElem? (i := 2) rfl)) (hw _ (List.mem_of_getElem? (i := 25) rfl)) (by decide) pd_5 rfl rfl rfl (Nat.le_of_ble_eq_true rfl) (Nat.le_of_ble_eq_true rfl) (Nat.le_of_ble_eq_true rfl) (Nat.le_of_ble_eq_true rfl) ?_
                rintro _ _ ⟨rfl, rfl⟩
                show Wp none l Z "com/example/prim_canon/primcanon/compare/DifferenceEqualsPinLaw" "law" code maxLocals ret room_1 [(a9, oI "com/example/prim_canon/primcanon/compare/Difference" sg_1 [(.long a), (.long b)]), (a10, oI "com/example/prim_canon/primcanon/compare/Difference" sg_1 [(.long b2), (.long b6)]), (g16, oI "java/lang/Long" sg_2 [(.long a)])] 3 5 126 #[.val (.long a), .second, .val (.long b), .second, .val (.long c), .second, .val (.long d), .second, .val (.int flag), .val (.long b2), .second, .val (.long b6), .second, .val (.ref a9), .val (.ref a10), .val (.int b12), .val (.ref g16), .val (.int (0 : Int32)), .val (.int (1 : Int32)), .val (.int (1 : Int32)), .unset] [(.int (0 : Int32))] Q_law
                refine wp_istore #[.val (.long a), .second, .val (.long b), .second, .val (.long c), .second, .val (.long d), .second, .val (.int flag), .val (.long b2), .second, .val (.long b6), .second, .val (.ref a9), .val (.ref a10), .val (.int b12), .val (.ref g16), .val (.int (0 : Int32)), .val (.int (1 : Int32)), .val (.int (1 : Int32)), .val (.int (0 : Int32))] D_126 rfl ?_
                refine wp_iload D_128 rfl ?_
                refine wp_iload D_130 rfl ?_
                refine wp_icmp_ne D_132 (pc'' := 156) ⟨by decide, by decide⟩ (fun h47 => ?_) (fun h47 => ?_)
                · skip
                  refine wp_iconst 0 D_156 (by decide) ?_
                  refine wp_ireturnN D_157 rfl (by simp) (by decide) (by decide) ?_
                  exfalso; clear hw S_C A_C hsz hC hno hj3 hj7; rcases hj13 with ⟨q1, q2⟩ | ⟨q1, q2, q3⟩ | ⟨q1, q2, q3⟩ <;> (simp only [Int32.lt_iff_toInt_lt, Int32.le_iff_toInt_le, ← Int32.toInt_inj, Int32.reduceToInt, Int64.lt_iff_toInt_lt, ← Int64.toInt_inj, Int64.reduceToInt] at *; omega)
                · skip
                  refine wp_iload D_135 rfl ?_
                  refine wp_iload D_137 rfl ?_
                  refine wp_icmp_ne D_139 (pc'' := 156) ⟨by decide, by decide⟩ (fun h48 => ?_) (fun h48 => ?_)
                  · skip
                    refine wp_iconst 0 D_156 (by decide) ?_
                    refine wp_ireturnN D_157 rfl (by simp) (by decide) (by decide) ?_
                    exfalso; clear hw S_C A_C hsz hC hno hj3 hj7; rcases hj13 with ⟨q1, q2⟩ | ⟨q1, q2, q3⟩ | ⟨q1, q2, q3⟩ <;> (simp only [Int32.lt_iff_toInt_lt, Int32.le_iff_toInt_le, ← Int32.toInt_inj, Int32.reduceToInt, Int64.lt_iff_toInt_lt, ← Int64.toInt_inj, Int64.reduceToInt] at *; omega)
                  · skip
                    refine wp_iload D_142 rfl ?_
                    refine wp_if_eq D_144 (pc'' := 156) ⟨by decide, by decide⟩ (fun h49 => by exact absurd h49 (by decide)) (fun h49 => ?_)
                    refine wp_iload D_147 rfl ?_
                    refine wp_if_ne D_149 (pc'' := 156) ⟨by decide, by decide⟩ (fun h50 => by exact absurd h50 (by decide)) (fun h50 => ?_)
                    refine wp_iconst 1 D_152 (by decide) ?_
                    refine wp_goto D_153 (pc'' := 157) ⟨by decide, by decide⟩ ?_
                    refine wp_ireturnN D_157 rfl (by simp) (by decide) (by decide) ?_
                    exact rfl
              · rw [if_neg hp46]
                show Wp none l Z "com/example/prim_canon/primcanon/compare/DifferenceEqualsPinLaw" "law" code maxLocals ret room_1 [(a10, oI "com/example/prim_canon/primcanon/compare/Difference" sg_1 [(.long b2), (.long b6)]), (a9, oI "com/example/prim_canon/primcanon/compare/Difference" sg_1 [(.long a), (.long b)]), (g16, oI "java/lang/Long" sg_2 [(.long a)])] 3 5 108 #[.val (.long a), .second, .val (.long b), .second, .val (.long c), .second, .val (.long d), .second, .val (.int flag), .val (.long b2), .second, .val (.long b6), .second, .val (.ref a9), .val (.ref a10), .val (.int b12), .val (.ref g16), .val (.int (0 : Int32)), .unset, .unset, .unset] [(.int (0 : Int32))] Q_law
                refine wp_istore #[.val (.long a), .second, .val (.long b), .second, .val (.long c), .second, .val (.long d), .second, .val (.int flag), .val (.long b2), .second, .val (.long b6), .second, .val (.ref a9), .val (.ref a10), .val (.int b12), .val (.ref g16), .val (.int (0 : Int32)), .val (.int (0 : Int32)), .unset, .unset] D_108 rfl ?_
                refine wp_aload D_110 rfl rfl ?_
                refine wp_aload D_112 rfl rfl ?_
                refine Wp.pick [1, 0, 2] (by decide) ?_
                show Wp none l Z "com/example/prim_canon/primcanon/compare/DifferenceEqualsPinLaw" "law" code maxLocals ret room_1 [(a9, oI "com/example/prim_canon/primcanon/compare/Difference" sg_1 [(.long a), (.long b)]), (a10, oI "com/example/prim_canon/primcanon/compare/Difference" sg_1 [(.long b2), (.long b6)]), (g16, oI "java/lang/Long" sg_2 [(.long a)])] 3 5 114 #[.val (.long a), .second, .val (.long b), .second, .val (.long c), .second, .val (.long d), .second, .val (.int flag), .val (.long b2), .second, .val (.long b6), .second, .val (.ref a9), .val (.ref a10), .val (.int b12), .val (.ref g16), .val (.int (0 : Int32)), .val (.int (0 : Int32)), .unset, .unset] [(.ref a9), (.ref a9)] Q_law
                refine wp_virtual (c_eqs l Z a0 hw a9 a b [(a10, oI "com/example/prim_canon/primcanon/compare/Difference" sg_1 [(.long b2), (.long b6)]), (g16, oI "java/lang/Long" sg_2 [(.long a)])]) (exa_new (i := 0) rfl) D_114 (hw _ (List.mem_of_getElem? (i := 21) rfl)) (hw _ (List.mem_of_getElem? (i := 22) rfl)) (hw _ (List.mem_of_getElem? (i := 24) rfl)) (hw _ (List.mem_of_getElem? (i := 24) rfl)) (hw _ (List.mem_of_getElem? (i := 23) rfl)) (hw _ (List.mem_of_getElem? (i := 2) rfl)) (hw _ (List.mem_of_getElem? (i := 25) rfl)) (by decide) pd_5 rfl rfl rfl (Nat.le_of_ble_eq_true rfl) (Nat.le_of_ble_eq_true rfl) (Nat.le_of_ble_eq_true rfl) (Nat.le_of_ble_eq_true rfl) ?_
                rintro _ _ ⟨rfl, rfl⟩
                show Wp none l Z "com/example/prim_canon/primcanon/compare/DifferenceEqualsPinLaw" "law" code maxLocals ret room_1 [(a9, oI "com/example/prim_canon/primcanon/compare/Difference" sg_1 [(.long a), (.long b)]), (a10, oI "com/example/prim_canon/primcanon/compare/Difference" sg_1 [(.long b2), (.long b6)]), (g16, oI "java/lang/Long" sg_2 [(.long a)])] 3 5 117 #[.val (.long a), .second, .val (.long b), .second, .val (.long c), .second, .val (.long d), .second, .val (.int flag), .val (.long b2), .second, .val (.long b6), .second, .val (.ref a9), .val (.ref a10), .val (.int b12), .val (.ref g16), .val (.int (0 : Int32)), .val (.int (0 : Int32)), .unset, .unset] [(.int (1 : Int32))] Q_law
                refine wp_istore #[.val (.long a), .second, .val (.long b), .second, .val (.long c), .second, .val (.long d), .second, .val (.int flag), .val (.long b2), .second, .val (.long b6), .second, .val (.ref a9), .val (.ref a10), .val (.int b12), .val (.ref g16), .val (.int (0 : Int32)), .val (.int (0 : Int32)), .val (.int (1 : Int32)), .unset] D_117 rfl ?_
                refine wp_aload D_119 rfl rfl ?_
                refine wp_aload D_121 rfl rfl ?_
                refine wp_virtual (c_eql l Z a0 hw a9 g16 [(a9, oI "com/example/prim_canon/primcanon/compare/Difference" sg_1 [(.long a), (.long b)]), (a10, oI "com/example/prim_canon/primcanon/compare/Difference" sg_1 [(.long b2), (.long b6)]), (g16, oI "java/lang/Long" sg_2 [(.long a)])] (exa_new (i := 2) rfl) hno) (exa_new (i := 0) rfl) D_123 (hw _ (List.mem_of_getElem? (i := 21) rfl)) (hw _ (List.mem_of_getElem? (i := 22) rfl)) (hw _ (List.mem_of_getElem? (i := 24) rfl)) (hw _ (List.mem_of_getElem? (i := 24) rfl)) (hw _ (List.mem_of_getElem? (i := 23) rfl)) (hw _ (List.mem_of_getElem? (i := 2) rfl)) (hw _ (List.mem_of_getElem? (i := 25) rfl)) (by decide) pd_5 rfl rfl rfl (Nat.le_of_ble_eq_true rfl) (Nat.le_of_ble_eq_true rfl) (Nat.le_of_ble_eq_true rfl) (Nat.le_of_ble_eq_true rfl) ?_
                rintro _ _ ⟨rfl, rfl⟩
                show Wp none l Z "com/example/prim_canon/primcanon/compare/DifferenceEqualsPinLaw" "law" code maxLocals ret room_1 [(a9, oI "com/example/prim_canon/primcanon/compare/Difference" sg_1 [(.long a), (.long b)]), (a10, oI "com/example/prim_canon/primcanon/compare/Difference" sg_1 [(.long b2), (.long b6)]), (g16, oI "java/lang/Long" sg_2 [(.long a)])] 3 5 126 #[.val (.long a), .second, .val (.long b), .second, .val (.long c), .second, .val (.long d), .second, .val (.int flag), .val (.long b2), .second, .val (.long b6), .second, .val (.ref a9), .val (.ref a10), .val (.int b12), .val (.ref g16), .val (.int (0 : Int32)), .val (.int (0 : Int32)), .val (.int (1 : Int32)), .unset] [(.int (0 : Int32))] Q_law
                refine wp_istore #[.val (.long a), .second, .val (.long b), .second, .val (.long c), .second, .val (.long d), .second, .val (.int flag), .val (.long b2), .second, .val (.long b6), .second, .val (.ref a9), .val (.ref a10), .val (.int b12), .val (.ref g16), .val (.int (0 : Int32)), .val (.int (0 : Int32)), .val (.int (1 : Int32)), .val (.int (0 : Int32))] D_126 rfl ?_
                refine wp_iload D_128 rfl ?_
                refine wp_iload D_130 rfl ?_
                refine wp_icmp_ne D_132 (pc'' := 156) ⟨by decide, by decide⟩ (fun h51 => ?_) (fun h51 => ?_)
                · skip
                  refine wp_iconst 0 D_156 (by decide) ?_
                  refine wp_ireturnN D_157 rfl (by simp) (by decide) (by decide) ?_
                  exfalso; clear hw S_C A_C hsz hC hno hj3 hj7; rcases hj13 with ⟨q1, q2⟩ | ⟨q1, q2, q3⟩ | ⟨q1, q2, q3⟩ <;> (simp only [Int32.lt_iff_toInt_lt, Int32.le_iff_toInt_le, ← Int32.toInt_inj, Int32.reduceToInt, Int64.lt_iff_toInt_lt, ← Int64.toInt_inj, Int64.reduceToInt] at *; omega)
                · skip
                  refine wp_iload D_135 rfl ?_
                  refine wp_iload D_137 rfl ?_
                  refine wp_icmp_ne D_139 (pc'' := 156) ⟨by decide, by decide⟩ (fun h52 => ?_) (fun h52 => ?_)
                  · skip
                    refine wp_iconst 0 D_156 (by decide) ?_
                    refine wp_ireturnN D_157 rfl (by simp) (by decide) (by decide) ?_
                    exfalso; clear hw S_C A_C hsz hC hno hj3 hj7; rcases hj13 with ⟨q1, q2⟩ | ⟨q1, q2, q3⟩ | ⟨q1, q2, q3⟩ <;> (simp only [Int32.lt_iff_toInt_lt, Int32.le_iff_toInt_le, ← Int32.toInt_inj, Int32.reduceToInt, Int64.lt_iff_toInt_lt, ← Int64.toInt_inj, Int64.reduceToInt] at *; omega)
                  · skip
                    refine wp_iload D_142 rfl ?_
                    refine wp_if_eq D_144 (pc'' := 156) ⟨by decide, by decide⟩ (fun h53 => by exact absurd h53 (by decide)) (fun h53 => ?_)
                    refine wp_iload D_147 rfl ?_
                    refine wp_if_ne D_149 (pc'' := 156) ⟨by decide, by decide⟩ (fun h54 => by exact absurd h54 (by decide)) (fun h54 => ?_)
                    refine wp_iconst 1 D_152 (by decide) ?_
                    refine wp_goto D_153 (pc'' := 157) ⟨by decide, by decide⟩ ?_
                    refine wp_ireturnN D_157 rfl (by simp) (by decide) (by decide) ?_
                    exact rfl
        · skip
          refine wp_aconst_null D_82 ?_
          refine wp_goto D_83 (pc'' := 90) ⟨by decide, by decide⟩ ?_
          refine wp_astore #[.val (.long a), .second, .val (.long b), .second, .val (.long c), .second, .val (.long d), .second, .val (.int flag), .val (.long b2), .second, .val (.long b6), .second, .val (.ref a9), .val (.ref a10), .val (.int b12), .val (.null), .unset, .unset, .unset, .unset] D_90 rfl rfl ?_
          refine wp_aload D_92 rfl rfl ?_
          refine wp_aload D_94 rfl rfl ?_
          refine Wp.pick [1, 0] (by decide) ?_
          show Wp none l Z "com/example/prim_canon/primcanon/compare/DifferenceEqualsPinLaw" "law" code maxLocals ret room_1 [(a9, oI "com/example/prim_canon/primcanon/compare/Difference" sg_1 [(.long a), (.long b)]), (a10, oI "com/example/prim_canon/primcanon/compare/Difference" sg_1 [(.long b2), (.long b6)])] 2 4 96 #[.val (.long a), .second, .val (.long b), .second, .val (.long c), .second, .val (.long d), .second, .val (.int flag), .val (.long b2), .second, .val (.long b6), .second, .val (.ref a9), .val (.ref a10), .val (.int b12), .val (.null), .unset, .unset, .unset, .unset] [(.ref a10), (.ref a9)] Q_law
          refine wp_virtual (c_eq l Z a0 hw a9 a10 a b b2 b6 []) (exa_new (i := 0) rfl) D_96 (hw _ (List.mem_of_getElem? (i := 21) rfl)) (hw _ (List.mem_of_getElem? (i := 22) rfl)) (hw _ (List.mem_of_getElem? (i := 24) rfl)) (hw _ (List.mem_of_getElem? (i := 24) rfl)) (hw _ (List.mem_of_getElem? (i := 23) rfl)) (hw _ (List.mem_of_getElem? (i := 2) rfl)) (hw _ (List.mem_of_getElem? (i := 25) rfl)) (by decide) pd_5 rfl rfl rfl (Nat.le_of_ble_eq_true rfl) (Nat.le_of_ble_eq_true rfl) (Nat.le_of_ble_eq_true rfl) (Nat.le_of_ble_eq_true rfl) ?_
          rintro _ _ ⟨rfl, rfl⟩
          by_cases hp55 : a = b2 ∧ b = b6
          · rw [if_pos hp55]
            show Wp none l Z "com/example/prim_canon/primcanon/compare/DifferenceEqualsPinLaw" "law" code maxLocals ret room_1 [(a9, oI "com/example/prim_canon/primcanon/compare/Difference" sg_1 [(.long a), (.long b)]), (a10, oI "com/example/prim_canon/primcanon/compare/Difference" sg_1 [(.long b2), (.long b6)])] 2 4 99 #[.val (.long a), .second, .val (.long b), .second, .val (.long c), .second, .val (.long d), .second, .val (.int flag), .val (.long b2), .second, .val (.long b6), .second, .val (.ref a9), .val (.ref a10), .val (.int b12), .val (.null), .unset, .unset, .unset, .unset] [(.int (1 : Int32))] Q_law
            refine wp_istore #[.val (.long a), .second, .val (.long b), .second, .val (.long c), .second, .val (.long d), .second, .val (.int flag), .val (.long b2), .second, .val (.long b6), .second, .val (.ref a9), .val (.ref a10), .val (.int b12), .val (.null), .val (.int (1 : Int32)), .unset, .unset, .unset] D_99 rfl ?_
            refine wp_aload D_101 rfl rfl ?_
            refine wp_aload D_103 rfl rfl ?_
            refine Wp.pick [1, 0] (by decide) ?_
            show Wp none l Z "com/example/prim_canon/primcanon/compare/DifferenceEqualsPinLaw" "law" code maxLocals ret room_1 [(a10, oI "com/example/prim_canon/primcanon/compare/Difference" sg_1 [(.long b2), (.long b6)]), (a9, oI "com/example/prim_canon/primcanon/compare/Difference" sg_1 [(.long a), (.long b)])] 2 4 105 #[.val (.long a), .second, .val (.long b), .second, .val (.long c), .second, .val (.long d), .second, .val (.int flag), .val (.long b2), .second, .val (.long b6), .second, .val (.ref a9), .val (.ref a10), .val (.int b12), .val (.null), .val (.int (1 : Int32)), .unset, .unset, .unset] [(.ref a9), (.ref a10)] Q_law
            refine wp_virtual (c_eq l Z a0 hw a10 a9 b2 b6 a b []) (exa_new (i := 0) rfl) D_105 (hw _ (List.mem_of_getElem? (i := 21) rfl)) (hw _ (List.mem_of_getElem? (i := 22) rfl)) (hw _ (List.mem_of_getElem? (i := 24) rfl)) (hw _ (List.mem_of_getElem? (i := 24) rfl)) (hw _ (List.mem_of_getElem? (i := 23) rfl)) (hw _ (List.mem_of_getElem? (i := 2) rfl)) (hw _ (List.mem_of_getElem? (i := 25) rfl)) (by decide) pd_5 rfl rfl rfl (Nat.le_of_ble_eq_true rfl) (Nat.le_of_ble_eq_true rfl) (Nat.le_of_ble_eq_true rfl) (Nat.le_of_ble_eq_true rfl) ?_
            rintro _ _ ⟨rfl, rfl⟩
            by_cases hp56 : b2 = a ∧ b6 = b
            · rw [if_pos hp56]
              show Wp none l Z "com/example/prim_canon/primcanon/compare/DifferenceEqualsPinLaw" "law" code maxLocals ret room_1 [(a10, oI "com/example/prim_canon/primcanon/compare/Difference" sg_1 [(.long b2), (.long b6)]), (a9, oI "com/example/prim_canon/primcanon/compare/Difference" sg_1 [(.long a), (.long b)])] 2 4 108 #[.val (.long a), .second, .val (.long b), .second, .val (.long c), .second, .val (.long d), .second, .val (.int flag), .val (.long b2), .second, .val (.long b6), .second, .val (.ref a9), .val (.ref a10), .val (.int b12), .val (.null), .val (.int (1 : Int32)), .unset, .unset, .unset] [(.int (1 : Int32))] Q_law
              refine wp_istore #[.val (.long a), .second, .val (.long b), .second, .val (.long c), .second, .val (.long d), .second, .val (.int flag), .val (.long b2), .second, .val (.long b6), .second, .val (.ref a9), .val (.ref a10), .val (.int b12), .val (.null), .val (.int (1 : Int32)), .val (.int (1 : Int32)), .unset, .unset] D_108 rfl ?_
              refine wp_aload D_110 rfl rfl ?_
              refine wp_aload D_112 rfl rfl ?_
              refine Wp.pick [1, 0] (by decide) ?_
              show Wp none l Z "com/example/prim_canon/primcanon/compare/DifferenceEqualsPinLaw" "law" code maxLocals ret room_1 [(a9, oI "com/example/prim_canon/primcanon/compare/Difference" sg_1 [(.long a), (.long b)]), (a10, oI "com/example/prim_canon/primcanon/compare/Difference" sg_1 [(.long b2), (.long b6)])] 2 4 114 #[.val (.long a), .second, .val (.long b), .second, .val (.long c), .second, .val (.long d), .second, .val (.int flag), .val (.long b2), .second, .val (.long b6), .second, .val (.ref a9), .val (.ref a10), .val (.int b12), .val (.null), .val (.int (1 : Int32)), .val (.int (1 : Int32)), .unset, .unset] [(.ref a9), (.ref a9)] Q_law
              refine wp_virtual (c_eqs l Z a0 hw a9 a b [(a10, oI "com/example/prim_canon/primcanon/compare/Difference" sg_1 [(.long b2), (.long b6)])]) (exa_new (i := 0) rfl) D_114 (hw _ (List.mem_of_getElem? (i := 21) rfl)) (hw _ (List.mem_of_getElem? (i := 22) rfl)) (hw _ (List.mem_of_getElem? (i := 24) rfl)) (hw _ (List.mem_of_getElem? (i := 24) rfl)) (hw _ (List.mem_of_getElem? (i := 23) rfl)) (hw _ (List.mem_of_getElem? (i := 2) rfl)) (hw _ (List.mem_of_getElem? (i := 25) rfl)) (by decide) pd_5 rfl rfl rfl (Nat.le_of_ble_eq_true rfl) (Nat.le_of_ble_eq_true rfl) (Nat.le_of_ble_eq_true rfl) (Nat.le_of_ble_eq_true rfl) ?_
              rintro _ _ ⟨rfl, rfl⟩
              show Wp none l Z "com/example/prim_canon/primcanon/compare/DifferenceEqualsPinLaw" "law" code maxLocals ret room_1 [(a9, oI "com/example/prim_canon/primcanon/compare/Difference" sg_1 [(.long a), (.long b)]), (a10, oI "com/example/prim_canon/primcanon/compare/Difference" sg_1 [(.long b2), (.long b6)])] 2 4 117 #[.val (.long a), .second, .val (.long b), .second, .val (.long c), .second, .val (.long d), .second, .val (.int flag), .val (.long b2), .second, .val (.long b6), .second, .val (.ref a9), .val (.ref a10), .val (.int b12), .val (.null), .val (.int (1 : Int32)), .val (.int (1 : Int32)), .unset, .unset] [(.int (1 : Int32))] Q_law
              refine wp_istore #[.val (.long a), .second, .val (.long b), .second, .val (.long c), .second, .val (.long d), .second, .val (.int flag), .val (.long b2), .second, .val (.long b6), .second, .val (.ref a9), .val (.ref a10), .val (.int b12), .val (.null), .val (.int (1 : Int32)), .val (.int (1 : Int32)), .val (.int (1 : Int32)), .unset] D_117 rfl ?_
              refine wp_aload D_119 rfl rfl ?_
              refine wp_aload D_121 rfl rfl ?_
              refine wp_virtual (c_eqn l Z a0 hw a9 [(a9, oI "com/example/prim_canon/primcanon/compare/Difference" sg_1 [(.long a), (.long b)]), (a10, oI "com/example/prim_canon/primcanon/compare/Difference" sg_1 [(.long b2), (.long b6)])]) (exa_new (i := 0) rfl) D_123 (hw _ (List.mem_of_getElem? (i := 21) rfl)) (hw _ (List.mem_of_getElem? (i := 22) rfl)) (hw _ (List.mem_of_getElem? (i := 24) rfl)) (hw _ (List.mem_of_getElem? (i := 24) rfl)) (hw _ (List.mem_of_getElem? (i := 23) rfl)) (hw _ (List.mem_of_getElem? (i := 2) rfl)) (hw _ (List.mem_of_getElem? (i := 25) rfl)) (by decide) pd_5 rfl rfl rfl (Nat.le_of_ble_eq_true rfl) (Nat.le_of_ble_eq_true rfl) (Nat.le_of_ble_eq_true rfl) (Nat.le_of_ble_eq_true rfl) ?_
              rintro _ _ ⟨rfl, rfl⟩
              show Wp none l Z "com/example/prim_canon/primcanon/compare/DifferenceEqualsPinLaw" "law" code maxLocals ret room_1 [(a9, oI "com/example/prim_canon/primcanon/compare/Difference" sg_1 [(.long a), (.long b)]), (a10, oI "com/example/prim_canon/primcanon/compare/Difference" sg_1 [(.long b2), (.long b6)])] 2 4 126 #[.val (.long a), .second, .val (.long b), .second, .val (.long c), .second, .val (.long d), .second, .val (.int flag), .val (.long b2), .second, .val (.long b6), .second, .val (.ref a9), .val (.ref a10), .val (.int b12), .val (.null), .val (.int (1 : Int32)), .val (.int (1 : Int32)), .val (.int (1 : Int32)), .unset] [(.int (0 : Int32))] Q_law
              refine wp_istore #[.val (.long a), .second, .val (.long b), .second, .val (.long c), .second, .val (.long d), .second, .val (.int flag), .val (.long b2), .second, .val (.long b6), .second, .val (.ref a9), .val (.ref a10), .val (.int b12), .val (.null), .val (.int (1 : Int32)), .val (.int (1 : Int32)), .val (.int (1 : Int32)), .val (.int (0 : Int32))] D_126 rfl ?_
              refine wp_iload D_128 rfl ?_
              refine wp_iload D_130 rfl ?_
              refine wp_icmp_ne D_132 (pc'' := 156) ⟨by decide, by decide⟩ (fun h57 => ?_) (fun h57 => ?_)
              · skip
                refine wp_iconst 0 D_156 (by decide) ?_
                refine wp_ireturnN D_157 rfl (by simp) (by decide) (by decide) ?_
                exfalso; clear hw S_C A_C hsz hC hno hj3 hj7; rcases hj13 with ⟨q1, q2⟩ | ⟨q1, q2, q3⟩ | ⟨q1, q2, q3⟩ <;> (simp only [Int32.lt_iff_toInt_lt, Int32.le_iff_toInt_le, ← Int32.toInt_inj, Int32.reduceToInt, Int64.lt_iff_toInt_lt, ← Int64.toInt_inj, Int64.reduceToInt] at *; omega)
              · skip
                refine wp_iload D_135 rfl ?_
                refine wp_iload D_137 rfl ?_
                refine wp_icmp_ne D_139 (pc'' := 156) ⟨by decide, by decide⟩ (fun h58 => ?_) (fun h58 => ?_)
                · skip
                  refine wp_iconst 0 D_156 (by decide) ?_
                  refine wp_ireturnN D_157 rfl (by simp) (by decide) (by decide) ?_
                  exfalso; clear hw S_C A_C hsz hC hno hj3 hj7; rcases hj13 with ⟨q1, q2⟩ | ⟨q1, q2, q3⟩ | ⟨q1, q2, q3⟩ <;> (simp only [Int32.lt_iff_toInt_lt, Int32.le_iff_toInt_le, ← Int32.toInt_inj, Int32.reduceToInt, Int64.lt_iff_toInt_lt, ← Int64.toInt_inj, Int64.reduceToInt] at *; omega)
                · skip
                  refine wp_iload D_142 rfl ?_
                  refine wp_if_eq D_144 (pc'' := 156) ⟨by decide, by decide⟩ (fun h59 => by exact absurd h59 (by decide)) (fun h59 => ?_)
                  refine wp_iload D_147 rfl ?_
                  refine wp_if_ne D_149 (pc'' := 156) ⟨by decide, by decide⟩ (fun h60 => by exact absurd h60 (by decide)) (fun h60 => ?_)
                  refine wp_iconst 1 D_152 (by decide) ?_
                  refine wp_goto D_153 (pc'' := 157) ⟨by decide, by decide⟩ ?_
                  refine wp_ireturnN D_157 rfl (by simp) (by decide) (by decide) ?_
                  exact rfl
            · rw [if_neg hp56]
              show Wp none l Z "com/example/prim_canon/primcanon/compare/DifferenceEqualsPinLaw" "law" code maxLocals ret room_1 [(a10, oI "com/example/prim_canon/primcanon/compare/Difference" sg_1 [(.long b2), (.long b6)]), (a9, oI "com/example/prim_canon/primcanon/compare/Difference" sg_1 [(.long a), (.long b)])] 2 4 108 #[.val (.long a), .second, .val (.long b), .second, .val (.long c), .second, .val (.long d), .second, .val (.int flag), .val (.long b2), .second, .val (.long b6), .second, .val (.ref a9), .val (.ref a10), .val (.int b12), .val (.null), .val (.int (1 : Int32)), .unset, .unset, .unset] [(.int (0 : Int32))] Q_law
              refine wp_istore #[.val (.long a), .second, .val (.long b), .second, .val (.long c), .second, .val (.long d), .second, .val (.int flag), .val (.long b2), .second, .val (.long b6), .second, .val (.ref a9), .val (.ref a10), .val (.int b12), .val (.null), .val (.int (1 : Int32)), .val (.int (0 : Int32)), .unset, .unset] D_108 rfl ?_
              refine wp_aload D_110 rfl rfl ?_
              refine wp_aload D_112 rfl rfl ?_
              refine Wp.pick [1, 0] (by decide) ?_
              show Wp none l Z "com/example/prim_canon/primcanon/compare/DifferenceEqualsPinLaw" "law" code maxLocals ret room_1 [(a9, oI "com/example/prim_canon/primcanon/compare/Difference" sg_1 [(.long a), (.long b)]), (a10, oI "com/example/prim_canon/primcanon/compare/Difference" sg_1 [(.long b2), (.long b6)])] 2 4 114 #[.val (.long a), .second, .val (.long b), .second, .val (.long c), .second, .val (.long d), .second, .val (.int flag), .val (.long b2), .second, .val (.long b6), .second, .val (.ref a9), .val (.ref a10), .val (.int b12), .val (.null), .val (.int (1 : Int32)), .val (.int (0 : Int32)), .unset, .unset] [(.ref a9), (.ref a9)] Q_law
              refine wp_virtual (c_eqs l Z a0 hw a9 a b [(a10, oI "com/example/prim_canon/primcanon/compare/Difference" sg_1 [(.long b2), (.long b6)])]) (exa_new (i := 0) rfl) D_114 (hw _ (List.mem_of_getElem? (i := 21) rfl)) (hw _ (List.mem_of_getElem? (i := 22) rfl)) (hw _ (List.mem_of_getElem? (i := 24) rfl)) (hw _ (List.mem_of_getElem? (i := 24) rfl)) (hw _ (List.mem_of_getElem? (i := 23) rfl)) (hw _ (List.mem_of_getElem? (i := 2) rfl)) (hw _ (List.mem_of_getElem? (i := 25) rfl)) (by decide) pd_5 rfl rfl rfl (Nat.le_of_ble_eq_true rfl) (Nat.le_of_ble_eq_true rfl) (Nat.le_of_ble_eq_true rfl) (Nat.le_of_ble_eq_true rfl) ?_
              rintro _ _ ⟨rfl, rfl⟩
              show Wp none l Z "com/example/prim_canon/primcanon/compare/DifferenceEqualsPinLaw" "law" code maxLocals ret room_1 [(a9, oI "com/example/prim_canon/primcanon/compare/Difference" sg_1 [(.long a), (.long b)]), (a10, oI "com/example/prim_canon/primcanon/compare/Difference" sg_1 [(.long b2), (.long b6)])] 2 4 117 #[.val (.long a), .second, .val (.long b), .second, .val (.long c), .second, .val (.long d), .second, .val (.int flag), .val (.long b2), .second, .val (.long b6), .second, .val (.ref a9), .val (.ref a10), .val (.int b12), .val (.null), .val (.int (1 : Int32)), .val (.int (0 : Int32)), .unset, .unset] [(.int (1 : Int32))] Q_law
              refine wp_istore #[.val (.long a), .second, .val (.long b), .second, .val (.long c), .second, .val (.long d), .second, .val (.int flag), .val (.long b2), .second, .val (.long b6), .second, .val (.ref a9), .val (.ref a10), .val (.int b12), .val (.null), .val (.int (1 : Int32)), .val (.int (0 : Int32)), .val (.int (1 : Int32)), .unset] D_117 rfl ?_
              refine wp_aload D_119 rfl rfl ?_
              refine wp_aload D_121 rfl rfl ?_
              refine wp_virtual (c_eqn l Z a0 hw a9 [(a9, oI "com/example/prim_canon/primcanon/compare/Difference" sg_1 [(.long a), (.long b)]), (a10, oI "com/example/prim_canon/primcanon/compare/Difference" sg_1 [(.long b2), (.long b6)])]) (exa_new (i := 0) rfl) D_123 (hw _ (List.mem_of_getElem? (i := 21) rfl)) (hw _ (List.mem_of_getElem? (i := 22) rfl)) (hw _ (List.mem_of_getElem? (i := 24) rfl)) (hw _ (List.mem_of_getElem? (i := 24) rfl)) (hw _ (List.mem_of_getElem? (i := 23) rfl)) (hw _ (List.mem_of_getElem? (i := 2) rfl)) (hw _ (List.mem_of_getElem? (i := 25) rfl)) (by decide) pd_5 rfl rfl rfl (Nat.le_of_ble_eq_true rfl) (Nat.le_of_ble_eq_true rfl) (Nat.le_of_ble_eq_true rfl) (Nat.le_of_ble_eq_true rfl) ?_
              rintro _ _ ⟨rfl, rfl⟩
              show Wp none l Z "com/example/prim_canon/primcanon/compare/DifferenceEqualsPinLaw" "law" code maxLocals ret room_1 [(a9, oI "com/example/prim_canon/primcanon/compare/Difference" sg_1 [(.long a), (.long b)]), (a10, oI "com/example/prim_canon/primcanon/compare/Difference" sg_1 [(.long b2), (.long b6)])] 2 4 126 #[.val (.long a), .second, .val (.long b), .second, .val (.long c), .second, .val (.long d), .second, .val (.int flag), .val (.long b2), .second, .val (.long b6), .second, .val (.ref a9), .val (.ref a10), .val (.int b12), .val (.null), .val (.int (1 : Int32)), .val (.int (0 : Int32)), .val (.int (1 : Int32)), .unset] [(.int (0 : Int32))] Q_law
              refine wp_istore #[.val (.long a), .second, .val (.long b), .second, .val (.long c), .second, .val (.long d), .second, .val (.int flag), .val (.long b2), .second, .val (.long b6), .second, .val (.ref a9), .val (.ref a10), .val (.int b12), .val (.null), .val (.int (1 : Int32)), .val (.int (0 : Int32)), .val (.int (1 : Int32)), .val (.int (0 : Int32))] D_126 rfl ?_
              refine wp_iload D_128 rfl ?_
              refine wp_iload D_130 rfl ?_
              refine wp_icmp_ne D_132 (pc'' := 156) ⟨by decide, by decide⟩ (fun h61 => ?_) (fun h61 => ?_)
              · skip
                refine wp_iconst 0 D_156 (by decide) ?_
                refine wp_ireturnN D_157 rfl (by simp) (by decide) (by decide) ?_
                exfalso; clear hw S_C A_C hsz hC hno hj3 hj7; rcases hj13 with ⟨q1, q2⟩ | ⟨q1, q2, q3⟩ | ⟨q1, q2, q3⟩ <;> (simp only [Int32.lt_iff_toInt_lt, Int32.le_iff_toInt_le, ← Int32.toInt_inj, Int32.reduceToInt, Int64.lt_iff_toInt_lt, ← Int64.toInt_inj, Int64.reduceToInt] at *; omega)
              · skip
                refine wp_iload D_135 rfl ?_
                refine wp_iload D_137 rfl ?_
                refine wp_icmp_ne D_139 (pc'' := 156) ⟨by decide, by decide⟩ (fun h62 => ?_) (fun h62 => ?_)
                · skip
                  refine wp_iconst 0 D_156 (by decide) ?_
                  refine wp_ireturnN D_157 rfl (by simp) (by decide) (by decide) ?_
                  exfalso; clear hw S_C A_C hsz hC hno hj3 hj7; rcases hj13 with ⟨q1, q2⟩ | ⟨q1, q2, q3⟩ | ⟨q1, q2, q3⟩ <;> (simp only [Int32.lt_iff_toInt_lt, Int32.le_iff_toInt_le, ← Int32.toInt_inj, Int32.reduceToInt, Int64.lt_iff_toInt_lt, ← Int64.toInt_inj, Int64.reduceToInt] at *; omega)
                · skip
                  refine wp_iload D_142 rfl ?_
                  refine wp_if_eq D_144 (pc'' := 156) ⟨by decide, by decide⟩ (fun h63 => by exact absurd h63 (by decide)) (fun h63 => ?_)
                  refine wp_iload D_147 rfl ?_
                  refine wp_if_ne D_149 (pc'' := 156) ⟨by decide, by decide⟩ (fun h64 => by exact absurd h64 (by decide)) (fun h64 => ?_)
                  refine wp_iconst 1 D_152 (by decide) ?_
                  refine wp_goto D_153 (pc'' := 157) ⟨by decide, by decide⟩ ?_
                  refine wp_ireturnN D_157 rfl (by simp) (by decide) (by decide) ?_
                  exact rfl
          · rw [if_neg hp55]
            show Wp none l Z "com/example/prim_canon/primcanon/compare/DifferenceEqualsPinLaw" "law" code maxLocals ret room_1 [(a9, oI "com/example/prim_canon/primcanon/compare/Difference" sg_1 [(.long a), (.long b)]), (a10, oI "com/example/prim_canon/primcanon/compare/Difference" sg_1 [(.long b2), (.long b6)])] 2 4 99 #[.val (.long a), .second, .val (.long b), .second, .val (.long c), .second, .val (.long d), .second, .val (.int flag), .val (.long b2), .second, .val (.long b6), .second, .val (.ref a9), .val (.ref a10), .val (.int b12), .val (.null), .unset, .unset, .unset, .unset] [(.int (0 : Int32))] Q_law
            refine wp_istore #[.val (.long a), .second, .val (.long b), .second, .val (.long c), .second, .val (.long d), .second, .val (.int flag), .val (.long b2), .second, .val (.long b6), .second, .val (.ref a9), .val (.ref a10), .val (.int b12), .val (.null), .val (.int (0 : Int32)), .unset, .unset, .unset] D_99 rfl ?_
            refine wp_aload D_101 rfl rfl ?_
            refine wp_aload D_103 rfl rfl ?_
            refine Wp.pick [1, 0] (by decide) ?_
            show Wp none l Z "com/example/prim_canon/primcanon/compare/DifferenceEqualsPinLaw" "law" code maxLocals ret room_1 [(a10, oI "com/example/prim_canon/primcanon/compare/Difference" sg_1 [(.long b2), (.long b6)]), (a9, oI "com/example/prim_canon/primcanon/compare/Difference" sg_1 [(.long a), (.long b)])] 2 4 105 #[.val (.long a), .second, .val (.long b), .second, .val (.long c), .second, .val (.long d), .second, .val (.int flag), .val (.long b2), .second, .val (.long b6), .second, .val (.ref a9), .val (.ref a10), .val (.int b12), .val (.null), .val (.int (0 : Int32)), .unset, .unset, .unset] [(.ref a9), (.ref a10)] Q_law
            refine wp_virtual (c_eq l Z a0 hw a10 a9 b2 b6 a b []) (exa_new (i := 0) rfl) D_105 (hw _ (List.mem_of_getElem? (i := 21) rfl)) (hw _ (List.mem_of_getElem? (i := 22) rfl)) (hw _ (List.mem_of_getElem? (i := 24) rfl)) (hw _ (List.mem_of_getElem? (i := 24) rfl)) (hw _ (List.mem_of_getElem? (i := 23) rfl)) (hw _ (List.mem_of_getElem? (i := 2) rfl)) (hw _ (List.mem_of_getElem? (i := 25) rfl)) (by decide) pd_5 rfl rfl rfl (Nat.le_of_ble_eq_true rfl) (Nat.le_of_ble_eq_true rfl) (Nat.le_of_ble_eq_true rfl) (Nat.le_of_ble_eq_true rfl) ?_
            rintro _ _ ⟨rfl, rfl⟩
            by_cases hp65 : b2 = a ∧ b6 = b
            · rw [if_pos hp65]
              show Wp none l Z "com/example/prim_canon/primcanon/compare/DifferenceEqualsPinLaw" "law" code maxLocals ret room_1 [(a10, oI "com/example/prim_canon/primcanon/compare/Difference" sg_1 [(.long b2), (.long b6)]), (a9, oI "com/example/prim_canon/primcanon/compare/Difference" sg_1 [(.long a), (.long b)])] 2 4 108 #[.val (.long a), .second, .val (.long b), .second, .val (.long c), .second, .val (.long d), .second, .val (.int flag), .val (.long b2), .second, .val (.long b6), .second, .val (.ref a9), .val (.ref a10), .val (.int b12), .val (.null), .val (.int (0 : Int32)), .unset, .unset, .unset] [(.int (1 : Int32))] Q_law
              refine wp_istore #[.val (.long a), .second, .val (.long b), .second, .val (.long c), .second, .val (.long d), .second, .val (.int flag), .val (.long b2), .second, .val (.long b6), .second, .val (.ref a9), .val (.ref a10), .val (.int b12), .val (.null), .val (.int (0 : Int32)), .val (.int (1 : Int32)), .unset, .unset] D_108 rfl ?_
              refine wp_aload D_110 rfl rfl ?_
              refine wp_aload D_112 rfl rfl ?_
              refine Wp.pick [1, 0] (by decide) ?_
              show Wp none l Z "com/example/prim_canon/primcanon/compare/DifferenceEqualsPinLaw" "law" code maxLocals ret room_1 [(a9, oI "com/example/prim_canon/primcanon/compare/Difference" sg_1 [(.long a), (.long b)]), (a10, oI "com/example/prim_canon/primcanon/compare/Difference" sg_1 [(.long b2), (.long b6)])] 2 4 114 #[.val (.long a), .second, .val (.long b), .second, .val (.long c), .second, .val (.long d), .second, .val (.int flag), .val (.long b2), .second, .val (.long b6), .second, .val (.ref a9), .val (.ref a10), .val (.int b12), .val (.null), .val (.int (0 : Int32)), .val (.int (1 : Int32)), .unset, .unset] [(.ref a9), (.ref a9)] Q_law
              refine wp_virtual (c_eqs l Z a0 hw a9 a b [(a10, oI "com/example/prim_canon/primcanon/compare/Difference" sg_1 [(.long b2), (.long b6)])]) (exa_new (i := 0) rfl) D_114 (hw _ (List.mem_of_getElem? (i := 21) rfl)) (hw _ (List.mem_of_getElem? (i := 22) rfl)) (hw _ (List.mem_of_getElem? (i := 24) rfl)) (hw _ (List.mem_of_getElem? (i := 24) rfl)) (hw _ (List.mem_of_getElem? (i := 23) rfl)) (hw _ (List.mem_of_getElem? (i := 2) rfl)) (hw _ (List.mem_of_getElem? (i := 25) rfl)) (by decide) pd_5 rfl rfl rfl (Nat.le_of_ble_eq_true rfl) (Nat.le_of_ble_eq_true rfl) (Nat.le_of_ble_eq_true rfl) (Nat.le_of_ble_eq_true rfl) ?_
              rintro _ _ ⟨rfl, rfl⟩
              show Wp none l Z "com/example/prim_canon/primcanon/compare/DifferenceEqualsPinLaw" "law" code maxLocals ret room_1 [(a9, oI "com/example/prim_canon/primcanon/compare/Difference" sg_1 [(.long a), (.long b)]), (a10, oI "com/example/prim_canon/primcanon/compare/Difference" sg_1 [(.long b2), (.long b6)])] 2 4 117 #[.val (.long a), .second, .val (.long b), .second, .val (.long c), .second, .val (.long d), .second, .val (.int flag), .val (.long b2), .second, .val (.long b6), .second, .val (.ref a9), .val (.ref a10), .val (.int b12), .val (.null), .val (.int (0 : Int32)), .val (.int (1 : Int32)), .unset, .unset] [(.int (1 : Int32))] Q_law
              refine wp_istore #[.val (.long a), .second, .val (.long b), .second, .val (.long c), .second, .val (.long d), .second, .val (.int flag), .val (.long b2), .second, .val (.long b6), .second, .val (.ref a9), .val (.ref a10), .val (.int b12), .val (.null), .val (.int (0 : Int32)), .val (.int (1 : Int32)), .val (.int (1 : Int32)), .unset] D_117 rfl ?_
              refine wp_aload D_119 rfl rfl ?_
              refine wp_aload D_121 rfl rfl ?_
              refine wp_virtual (c_eqn l Z a0 hw a9 [(a9, oI "com/example/prim_canon/primcanon/compare/Difference" sg_1 [(.long a), (.long b)]), (a10, oI "com/example/prim_canon/primcanon/compare/Difference" sg_1 [(.long b2), (.long b6)])]) (exa_new (i := 0) rfl) D_123 (hw _ (List.mem_of_getElem? (i := 21) rfl)) (hw _ (List.mem_of_getElem? (i := 22) rfl)) (hw _ (List.mem_of_getElem? (i := 24) rfl)) (hw _ (List.mem_of_getElem? (i := 24) rfl)) (hw _ (List.mem_of_getElem? (i := 23) rfl)) (hw _ (List.mem_of_getElem? (i := 2) rfl)) (hw _ (List.mem_of_getElem? (i := 25) rfl)) (by decide) pd_5 rfl rfl rfl (Nat.le_of_ble_eq_true rfl) (Nat.le_of_ble_eq_true rfl) (Nat.le_of_ble_eq_true rfl) (Nat.le_of_ble_eq_true rfl) ?_
              rintro _ _ ⟨rfl, rfl⟩
              show Wp none l Z "com/example/prim_canon/primcanon/compare/DifferenceEqualsPinLaw" "law" code maxLocals ret room_1 [(a9, oI "com/example/prim_canon/primcanon/compare/Difference" sg_1 [(.long a), (.long b)]), (a10, oI "com/example/prim_canon/primcanon/compare/Difference" sg_1 [(.long b2), (.long b6)])] 2 4 126 #[.val (.long a), .second, .val (.long b), .second, .val (.long c), .second, .val (.long d), .second, .val (.int flag), .val (.long b2), .second, .val (.long b6), .second, .val (.ref a9), .val (.ref a10), .val (.int b12), .val (.null), .val (.int (0 : Int32)), .val (.int (1 : Int32)), .val (.int (1 : Int32)), .unset] [(.int (0 : Int32))] Q_law
              refine wp_istore #[.val (.long a), .second, .val (.long b), .second, .val (.long c), .second, .val (.long d), .second, .val (.int flag), .val (.long b2), .second, .val (.long b6), .second, .val (.ref a9), .val (.ref a10), .val (.int b12), .val (.null), .val (.int (0 : Int32)), .val (.int (1 : Int32)), .val (.int (1 : Int32)), .val (.int (0 : Int32))] D_126 rfl ?_
              refine wp_iload D_128 rfl ?_
              refine wp_iload D_130 rfl ?_
              refine wp_icmp_ne D_132 (pc'' := 156) ⟨by decide, by decide⟩ (fun h66 => ?_) (fun h66 => ?_)
              · skip
                refine wp_iconst 0 D_156 (by decide) ?_
                refine wp_ireturnN D_157 rfl (by simp) (by decide) (by decide) ?_
                exfalso; clear hw S_C A_C hsz hC hno hj3 hj7; rcases hj13 with ⟨q1, q2⟩ | ⟨q1, q2, q3⟩ | ⟨q1, q2, q3⟩ <;> (simp only [Int32.lt_iff_toInt_lt, Int32.le_iff_toInt_le, ← Int32.toInt_inj, Int32.reduceToInt, Int64.lt_iff_toInt_lt, ← Int64.toInt_inj, Int64.reduceToInt] at *; omega)
              · skip
                refine wp_iload D_135 rfl ?_
                refine wp_iload D_137 rfl ?_
                refine wp_icmp_ne D_139 (pc'' := 156) ⟨by decide, by decide⟩ (fun h67 => ?_) (fun h67 => ?_)
                · skip
                  refine wp_iconst 0 D_156 (by decide) ?_
                  refine wp_ireturnN D_157 rfl (by simp) (by decide) (by decide) ?_
                  exfalso; clear hw S_C A_C hsz hC hno hj3 hj7; rcases hj13 with ⟨q1, q2⟩ | ⟨q1, q2, q3⟩ | ⟨q1, q2, q3⟩ <;> (simp only [Int32.lt_iff_toInt_lt, Int32.le_iff_toInt_le, ← Int32.toInt_inj, Int32.reduceToInt, Int64.lt_iff_toInt_lt, ← Int64.toInt_inj, Int64.reduceToInt] at *; omega)
                · skip
                  refine wp_iload D_142 rfl ?_
                  refine wp_if_eq D_144 (pc'' := 156) ⟨by decide, by decide⟩ (fun h68 => by exact absurd h68 (by decide)) (fun h68 => ?_)
                  refine wp_iload D_147 rfl ?_
                  refine wp_if_ne D_149 (pc'' := 156) ⟨by decide, by decide⟩ (fun h69 => by exact absurd h69 (by decide)) (fun h69 => ?_)
                  refine wp_iconst 1 D_152 (by decide) ?_
                  refine wp_goto D_153 (pc'' := 157) ⟨by decide, by decide⟩ ?_
                  refine wp_ireturnN D_157 rfl (by simp) (by decide) (by decide) ?_
                  exact rfl
            · rw [if_neg hp65]
              show Wp none l Z "com/example/prim_canon/primcanon/compare/DifferenceEqualsPinLaw" "law" code maxLocals ret room_1 [(a10, oI "com/example/prim_canon/primcanon/compare/Difference" sg_1 [(.long b2), (.long b6)]), (a9, oI "com/example/prim_canon/primcanon/compare/Difference" sg_1 [(.long a), (.long b)])] 2 4 108 #[.val (.long a), .second, .val (.long b), .second, .val (.long c), .second, .val (.long d), .second, .val (.int flag), .val (.long b2), .second, .val (.long b6), .second, .val (.ref a9), .val (.ref a10), .val (.int b12), .val (.null), .val (.int (0 : Int32)), .unset, .unset, .unset] [(.int (0 : Int32))] Q_law
              refine wp_istore #[.val (.long a), .second, .val (.long b), .second, .val (.long c), .second, .val (.long d), .second, .val (.int flag), .val (.long b2), .second, .val (.long b6), .second, .val (.ref a9), .val (.ref a10), .val (.int b12), .val (.null), .val (.int (0 : Int32)), .val (.int (0 : Int32)), .unset, .unset] D_108 rfl ?_
              refine wp_aload D_110 rfl rfl ?_
              refine wp_aload D_112 rfl rfl ?_
              refine Wp.pick [1, 0] (by decide) ?_
              show Wp none l Z "com/example/prim_canon/primcanon/compare/DifferenceEqualsPinLaw" "law" code maxLocals ret room_1 [(a9, oI "com/example/prim_canon/primcanon/compare/Difference" sg_1 [(.long a), (.long b)]), (a10, oI "com/example/prim_canon/primcanon/compare/Difference" sg_1 [(.long b2), (.long b6)])] 2 4 114 #[.val (.long a), .second, .val (.long b), .second, .val (.long c), .second, .val (.long d), .second, .val (.int flag), .val (.long b2), .second, .val (.long b6), .second, .val (.ref a9), .val (.ref a10), .val (.int b12), .val (.null), .val (.int (0 : Int32)), .val (.int (0 : Int32)), .unset, .unset] [(.ref a9), (.ref a9)] Q_law
              refine wp_virtual (c_eqs l Z a0 hw a9 a b [(a10, oI "com/example/prim_canon/primcanon/compare/Difference" sg_1 [(.long b2), (.long b6)])]) (exa_new (i := 0) rfl) D_114 (hw _ (List.mem_of_getElem? (i := 21) rfl)) (hw _ (List.mem_of_getElem? (i := 22) rfl)) (hw _ (List.mem_of_getElem? (i := 24) rfl)) (hw _ (List.mem_of_getElem? (i := 24) rfl)) (hw _ (List.mem_of_getElem? (i := 23) rfl)) (hw _ (List.mem_of_getElem? (i := 2) rfl)) (hw _ (List.mem_of_getElem? (i := 25) rfl)) (by decide) pd_5 rfl rfl rfl (Nat.le_of_ble_eq_true rfl) (Nat.le_of_ble_eq_true rfl) (Nat.le_of_ble_eq_true rfl) (Nat.le_of_ble_eq_true rfl) ?_
              rintro _ _ ⟨rfl, rfl⟩
              show Wp none l Z "com/example/prim_canon/primcanon/compare/DifferenceEqualsPinLaw" "law" code maxLocals ret room_1 [(a9, oI "com/example/prim_canon/primcanon/compare/Difference" sg_1 [(.long a), (.long b)]), (a10, oI "com/example/prim_canon/primcanon/compare/Difference" sg_1 [(.long b2), (.long b6)])] 2 4 117 #[.val (.long a), .second, .val (.long b), .second, .val (.long c), .second, .val (.long d), .second, .val (.int flag), .val (.long b2), .second, .val (.long b6), .second, .val (.ref a9), .val (.ref a10), .val (.int b12), .val (.null), .val (.int (0 : Int32)), .val (.int (0 : Int32)), .unset, .unset] [(.int (1 : Int32))] Q_law
              refine wp_istore #[.val (.long a), .second, .val (.long b), .second, .val (.long c), .second, .val (.long d), .second, .val (.int flag), .val (.long b2), .second, .val (.long b6), .second, .val (.ref a9), .val (.ref a10), .val (.int b12), .val (.null), .val (.int (0 : Int32)), .val (.int (0 : Int32)), .val (.int (1 : Int32)), .unset] D_117 rfl ?_
              refine wp_aload D_119 rfl rfl ?_
              refine wp_aload D_121 rfl rfl ?_
              refine wp_virtual (c_eqn l Z a0 hw a9 [(a9, oI "com/example/prim_canon/primcanon/compare/Difference" sg_1 [(.long a), (.long b)]), (a10, oI "com/example/prim_canon/primcanon/compare/Difference" sg_1 [(.long b2), (.long b6)])]) (exa_new (i := 0) rfl) D_123 (hw _ (List.mem_of_getElem? (i := 21) rfl)) (hw _ (List.mem_of_getElem? (i := 22) rfl)) (hw _ (List.mem_of_getElem? (i := 24) rfl)) (hw _ (List.mem_of_getElem? (i := 24) rfl)) (hw _ (List.mem_of_getElem? (i := 23) rfl)) (hw _ (List.mem_of_getElem? (i := 2) rfl)) (hw _ (List.mem_of_getElem? (i := 25) rfl)) (by decide) pd_5 rfl rfl rfl (Nat.le_of_ble_eq_true rfl) (Nat.le_of_ble_eq_true rfl) (Nat.le_of_ble_eq_true rfl) (Nat.le_of_ble_eq_true rfl) ?_
              rintro _ _ ⟨rfl, rfl⟩
              show Wp none l Z "com/example/prim_canon/primcanon/compare/DifferenceEqualsPinLaw" "law" code maxLocals ret room_1 [(a9, oI "com/example/prim_canon/primcanon/compare/Difference" sg_1 [(.long a), (.long b)]), (a10, oI "com/example/prim_canon/primcanon/compare/Difference" sg_1 [(.long b2), (.long b6)])] 2 4 126 #[.val (.long a), .second, .val (.long b), .second, .val (.long c), .second, .val (.long d), .second, .val (.int flag), .val (.long b2), .second, .val (.long b6), .second, .val (.ref a9), .val (.ref a10), .val (.int b12), .val (.null), .val (.int (0 : Int32)), .val (.int (0 : Int32)), .val (.int (1 : Int32)), .unset] [(.int (0 : Int32))] Q_law
              refine wp_istore #[.val (.long a), .second, .val (.long b), .second, .val (.long c), .second, .val (.long d), .second, .val (.int flag), .val (.long b2), .second, .val (.long b6), .second, .val (.ref a9), .val (.ref a10), .val (.int b12), .val (.null), .val (.int (0 : Int32)), .val (.int (0 : Int32)), .val (.int (1 : Int32)), .val (.int (0 : Int32))] D_126 rfl ?_
              refine wp_iload D_128 rfl ?_
              refine wp_iload D_130 rfl ?_
              refine wp_icmp_ne D_132 (pc'' := 156) ⟨by decide, by decide⟩ (fun h70 => ?_) (fun h70 => ?_)
              · skip
                refine wp_iconst 0 D_156 (by decide) ?_
                refine wp_ireturnN D_157 rfl (by simp) (by decide) (by decide) ?_
                exfalso; clear hw S_C A_C hsz hC hno hj3 hj7; rcases hj13 with ⟨q1, q2⟩ | ⟨q1, q2, q3⟩ | ⟨q1, q2, q3⟩ <;> (simp only [Int32.lt_iff_toInt_lt, Int32.le_iff_toInt_le, ← Int32.toInt_inj, Int32.reduceToInt, Int64.lt_iff_toInt_lt, ← Int64.toInt_inj, Int64.reduceToInt] at *; omega)
              · skip
                refine wp_iload D_135 rfl ?_
                refine wp_iload D_137 rfl ?_
                refine wp_icmp_ne D_139 (pc'' := 156) ⟨by decide, by decide⟩ (fun h71 => ?_) (fun h71 => ?_)
                · skip
                  refine wp_iconst 0 D_156 (by decide) ?_
                  refine wp_ireturnN D_157 rfl (by simp) (by decide) (by decide) ?_
                  exfalso; clear hw S_C A_C hsz hC hno hj3 hj7; rcases hj13 with ⟨q1, q2⟩ | ⟨q1, q2, q3⟩ | ⟨q1, q2, q3⟩ <;> (simp only [Int32.lt_iff_toInt_lt, Int32.le_iff_toInt_le, ← Int32.toInt_inj, Int32.reduceToInt, Int64.lt_iff_toInt_lt, ← Int64.toInt_inj, Int64.reduceToInt] at *; omega)
                · skip
                  refine wp_iload D_142 rfl ?_
                  refine wp_if_eq D_144 (pc'' := 156) ⟨by decide, by decide⟩ (fun h72 => by exact absurd h72 (by decide)) (fun h72 => ?_)
                  refine wp_iload D_147 rfl ?_
                  refine wp_if_ne D_149 (pc'' := 156) ⟨by decide, by decide⟩ (fun h73 => by exact absurd h73 (by decide)) (fun h73 => ?_)
                  refine wp_iconst 1 D_152 (by decide) ?_
                  refine wp_goto D_153 (pc'' := 157) ⟨by decide, by decide⟩ ?_
                  refine wp_ireturnN D_157 rfl (by simp) (by decide) (by decide) ?_
                  exact rfl
      refine wp_lcmp_ne D_57 D_58 (pc'' := 72) ⟨by decide, by decide⟩ (fun h11 => ?_) (fun h11 => ?_)
      · skip
        refine wp_iconst 0 D_72 (by decide) ?_
        exact (J14 (0 : Int32) (Or.inl ⟨h11, rfl⟩))
      · skip
        refine wp_lload_n D_61 rfl ?_
        refine wp_lload D_62 rfl ?_
        refine wp_lcmp_ne D_64 D_65 (pc'' := 72) ⟨by decide, by decide⟩ (fun h74 => ?_) (fun h74 => ?_)
        · skip
          refine wp_iconst 0 D_72 (by decide) ?_
          exact (J14 (0 : Int32) (Or.inr (Or.inl ⟨h11, h74, rfl⟩)))
        · skip
          refine wp_iconst 1 D_68 (by decide) ?_
          refine wp_goto D_69 (pc'' := 73) ⟨by decide, by decide⟩ ?_
          exact (J14 (1 : Int32) (Or.inr (Or.inr ⟨h11, h74, rfl⟩)))
    refine wp_if_eq D_19 (pc'' := 26) ⟨by decide, by decide⟩ (fun h5 => ?_) (fun h5 => ?_)
    · skip
      refine wp_lload D_26 rfl ?_
      exact (J8 d (Or.inl ⟨h5, rfl⟩))
    · skip
      refine wp_lload_n D_22 rfl ?_
      refine wp_goto D_23 (pc'' := 28) ⟨by decide, by decide⟩ ?_
      exact (J8 b (Or.inr ⟨h5, rfl⟩))
  refine wp_if_eq D_4 (pc'' := 11) ⟨by decide, by decide⟩ (fun h1 => ?_) (fun h1 => ?_)
  · skip
    refine wp_lload D_11 rfl ?_
    exact (J4 c (Or.inl ⟨h1, rfl⟩))
  · skip
    refine wp_lload_n D_7 rfl ?_
    refine wp_goto D_8 (pc'' := 13) ⟨by decide, by decide⟩ ?_
    exact (J4 a (Or.inr ⟨h1, rfl⟩))
set_option maxRecDepth 65536 in
set_option maxHeartbeats 40000000 in
theorem comes_1 {Post : Tables → Env → Array Value → State → Outcome → State → Prop} (hpost : ∀ tb e args s v u, (limb_1_1.after args s (.returned v) u = true ∧ limb_1_2.after args s (.returned v) u = true ∧ True) → FrameEnd s (.returned v) u (Jvm.fieldLocs frame_1_writes args s ++ Jvm.arrayLocs frame_1_arrays args s ++ Jvm.staticLocs frame_1_statics s) 16 128 → Post tb e args s (.returned v) u) :
    ArmFor flags0 classFile x code maxLocals ret World_1 tables_1 room_1 Calls_1 rest_1 Pre_1 Post := by
  intro l hfl _ _ p e ha hc hk s m args below hf hA hF happ hP
  obtain ⟨hcalls, hrest, hpre⟩ := hP
  obtain ⟨-, -, -, hnamed, -, -, -, hat⟩ := (Spec.applies_iff hf).mp happ
  obtain ⟨hg, hn⟩ := and_e (Cond.before_iff.mp (show (Jvm.Cond.and given_1 narrow_1).before args s = true from hpre))
  obtain ⟨hcnt, hk0⟩ := and_e hg
  obtain ⟨hz0, hk1⟩ := and_e hk0
  obtain ⟨hz1, hk2⟩ := and_e hk1
  obtain ⟨hz2, hk3⟩ := and_e hk2
  obtain ⟨hz3, hk4⟩ := and_e hk3
  have hz4 := hk4
  obtain ⟨w0, w1, w2, w3, w4, rfl⟩ : ∃ w0 w1 w2 w3 w4 : Value, args = #[w0, w1, w2, w3, w4] := by
    have hs : args.size = 5 := by simpa [Cond.value, given_1] using hcnt
    obtain ⟨L⟩ := args
    match L, hs with
    | [w0, w1, w2, w3, w4], _ => exact ⟨w0, w1, w2, w3, w4, rfl⟩
  have hw := fun d (hd : d ∈ tables_1) => atoms_spec (ws := Jvm.Cond.code x code maxLocals ret :: tables_1) hat d (List.mem_cons_of_mem _ hd)
  have hfit : Fit s := fun {y c} hc i hi => by
    obtain ⟨ha, rfl⟩ := Array.getElem?_eq_some_iff.mp hc
    have q := List.all_eq_true.mp ((Array.all_eq_true_iff_forall_mem.mp hF) _ (Array.getElem_mem ha)) i (List.mem_range.mpr hi)
    simpa [Array.getElem?_eq_getElem hi] using q
  obtain ⟨a, e0⟩ := isL_v hz0
  obtain rfl : w0 = (.long a) := Option.some.inj e0
  obtain ⟨b, e1⟩ := isL_v hz1
  obtain rfl : w1 = (.long b) := Option.some.inj e1
  obtain ⟨c_, e2⟩ := isL_v hz2
  obtain rfl : w2 = (.long c_) := Option.some.inj e2
  obtain ⟨d, e3⟩ := isL_v hz3
  obtain rfl : w3 = (.long d) := Option.some.inj e3
  obtain ⟨flag, e4⟩ := is_v hz4
  obtain rfl : w4 = (.int flag) := Option.some.inj e4
  obtain ⟨hsets, hown0⟩ := atoms_of _ (rest_1_c_eq ▸ (show rest_1_c.before _ s = true from hrest))
  obtain ⟨aC, eC⟩ := arr_v (Cond.before_iff.mp (hsets _ (List.mem_of_getElem? (i := 2) rfl)))
  have S_C := Sta.start eC (Or.inl (hsets _ (List.mem_of_getElem? (i := 1) rfl)))
  obtain ⟨cl, A_C⟩ := Arr.start eC (Cond.before_iff.mp (hsets _ (List.mem_of_getElem? (i := 2) rfl)))
  have hat0 := A_C.fin (Vm.Alike.refl _)
  have hlen := Cond.eq_int (hsets _ (List.mem_of_getElem? (i := 4) rfl)) rfl
  have hsz : cl.slots.size = 256 := by
    obtain ⟨aa, cc, r1, r2, r3⟩ := Term.length_spec hlen
    cases eC.symm.trans r1
    cases hat0.symm.trans r2
    have h31 := SBG.length_lt eC hat0 hlen
    have r4 : cl.slots.size.toInt32 = 256 := by injection r3 with r3; exact r3.symm
    have r5 := congrArg Int32.toInt r4
    rw [len_toInt h31] at r5
    simp only [Int32.reduceToInt] at r5; omega
  have hC := own_cache eC hat0 hsz (Cond.before_iff.mp (hsets _ (List.mem_of_getElem? (i := 5) rfl)))
  have hno := ns_no (hw _ (List.mem_of_getElem? (i := 28) rfl)) (hw _ (List.mem_of_getElem? (i := 1) rfl)) (NS.step (hw _ (List.mem_of_getElem? (i := 28) rfl)) (NS.step (hw _ (List.mem_of_getElem? (i := 29) rfl)) (ns_root (hw _ (List.mem_of_getElem? (i := 30) rfl)) (hw _ (List.mem_of_getElem? (i := 1) rfl)) (by decide)) (by decide)) (by decide)) (by decide)
  have hm := (law_wp l s _ hw a b c_ d flag aC cl S_C A_C hsz hC hno)
  obtain ⟨n, o, h1, h2, h3, v, L, rfl, ⟨N, -, H', -, hQ⟩, hq⟩ := Met.of_wp (y := x) (as' := [(.long a), (.long b), (.long c_), (.long d), (.int flag)]) pn_6 (fun m => (entry_loc m _ _).trans rfl) hm tables_1 s.heap (Hp.nil s) p e ha hc hk s m _ below hf ((Spec.applies_iff_loose hf).mp happ).1 ⟨rfl, State.Warmed39.refl s, rfl⟩ trivial
  obtain rfl : v = some (.int 1) := hQ
  refine ⟨n, _, h1, h2, h3, hpost _ _ _ _ _ _ ⟨Cond.after_iff.mpr rfl, Cond.after_iff.mpr (eq_i res_at (Term.int_eval (1)) rfl), trivial⟩ ⟨hq.1, hq.2.1, (hq.2.2.sift fun y hy => Or.inr (N y hy)).mono (by decide) (by decide)⟩⟩
theorem main_1_1 : Claimed_1_1 := comes_1 fun _ _ _ _ _ _ h hF => ⟨h.1, hF⟩
theorem main_1_2 : Claimed_1_2 := comes_1 fun _ _ _ _ _ _ h hF => ⟨h.2.1, hF⟩
end Jvm.Pilot.@@N@@
namespace Jvm.Pilot.@@N@@
open Jvm Jvm.ClassFile Sem Op Lib Jvm.Free Jvm.Stand Jvm.Pilot.@@N@@.Jvm.D
/-! MADE BY PROGRAM (witnessworld.py) out of the Statement's table words and the real class files: 16 classes; the members and pool entries that the words name. The judged class is class 1, her method 1. -/
namespace start1
open Jvm.ClassFile
def u (s : String) : CpInfo := .utf8 (stringToUtf16 s)
/-- a pool by its gaps: so many unusable entries, then the entry; so many at the end -/
def gap : Nat → List CpInfo → List CpInfo
  | 0, r => r
  | n + 1, r => .unusable :: gap n r
def poolList (es : List (Nat × CpInfo)) (last : Nat) : List CpInfo := es.foldr (fun e r => gap e.1 (e.2 :: r)) (gap last [])
def pool (es : List (Nat × CpInfo)) (last : Nat) : Array CpInfo := ⟨poolList es last⟩
def fileOf (pool : Array CpInfo) (this : Nat) (attrs : Array Attribute := #[]) (ms : Array MethodInfo := #[]) (fl : Nat := 33) (sup : Nat := 0) (ifs : Array Nat := #[]) (fds : Array FieldInfo := #[]) : ClassFile where
  minorVersion := 0
  majorVersion := 65
  constantPool := pool
  accessFlags := fl
  thisClass := this
  superClass := sup
  interfaces := ifs
  fields := fds
  methods := ms
  attributes := attrs
def plain (name : String) (sup : Option ClassId) : Class where
  name := name
  kind := .ordinary
  loader := none
  accessFlags := 33
  super := sup
  interfaces := #[]
  cf := none
  fields := #[]
  methods := #[]
  instanceTypes := #[]
  staticTypes := #[]
  resolved := #[]
  callSites := []
  init := .initialized
  statics := none
  mirror := none

def pool0 : Array CpInfo := pool [(5, u "<init>"), (0, u "()V"), (1, .class_ 10), (1, u "java/lang/Object")] 113

def k0c0 : Code := { maxStack := 0, maxLocals := 1, code := object_method_1_code, exceptionTable := #[], attributes := #[] }
def k0m0 : Method := { name := "<init>", desc := "()V", sig := { parameters := [], returnType := none }, accessFlags := 1, code := some k0c0 }
/-- java/lang/Object -/
def k0 : Class := { plain "java/lang/Object" none with
  accessFlags := 33
  interfaces := #[]
  cf := some (fileOf pool0 8 #[] #[{ accessFlags := 1, nameIndex := 5, descriptorIndex := 6, attributes := #[] }] 33 0 #[] #[])
  fields := #[]
  methods := #[k0m0]
  instanceTypes := #[]
  staticTypes := #[]
  resolved := Array.replicate 124 none
  statics := none }

def pool1 : Array CpInfo := pool [(2, .class_ 4), (1, u "java/lang/Object"), (0, u "<init>"), (0, u "()V"), (0, .class_ 8), (0, u "com/example/prim_canon/primcanon/compare/Difference"), (0, .methodref 7 10), (0, .nameAndType 5 11), (0, u "(JJ)V"), (0, .methodref 13 14), (0, .class_ 15), (0, .nameAndType 16 17), (0, u "java/lang/Long"), (0, u "valueOf"), (0, u "(J)Ljava/lang/Long;"), (0, .methodref 7 19), (0, .nameAndType 20 21), (0, u "equals"), (0, u "(Ljava/lang/Object;)Z"), (0, .class_ 23), (0, u "com/example/prim_canon/primcanon/compare/DifferenceEqualsPinLaw"), (2, u "law"), (0, u "(JJJJI)Z")] 3

def k1m0 : Method := { name := "<init>", desc := "()V", sig := { parameters := [], returnType := none }, accessFlags := 1, code := none }
def k1c1 : Code := { maxStack := 6, maxLocals := 21, code := code, exceptionTable := #[], attributes := #[] }
def k1m1 : Method := { name := "law", desc := "(JJJJI)Z", sig := { parameters := [.long, .long, .long, .long, .int], returnType := some .boolean }, accessFlags := 9, code := some k1c1 }
/-- com/example/prim_canon/primcanon/compare/DifferenceEqualsPinLaw -/
def k1 : Class := { plain "com/example/prim_canon/primcanon/compare/DifferenceEqualsPinLaw" (some 0) with
  accessFlags := 49
  interfaces := #[]
  cf := some (fileOf pool1 22 #[] #[{ accessFlags := 1, nameIndex := 5, descriptorIndex := 6, attributes := #[] }, { accessFlags := 9, nameIndex := 26, descriptorIndex := 27, attributes := #[] }] 49 2 #[] #[])
  fields := #[]
  methods := #[k1m0, k1m1]
  instanceTypes := #[]
  staticTypes := #[]
  resolved := Array.replicate 31 none
  statics := none }

def pool2 : Array CpInfo := pool [(1, .methodref 2 3), (0, .class_ 4), (0, .nameAndType 5 6), (0, u "java/lang/Object"), (0, u "<init>"), (0, u "()V"), (0, .fieldref 8 9), (0, .class_ 10), (0, .nameAndType 11 12), (0, u "com/example/prim_canon/primcanon/compare/Difference"), (0, u "byteNumber"), (0, u "J"), (0, .fieldref 8 14), (0, .nameAndType 15 12), (0, u "lineNumber"), (10, u "(JJ)V"), (3, u "equals"), (0, u "(Ljava/lang/Object;)Z")] 21

def k2c0 : Code := { maxStack := 3, maxLocals := 5, code := prog_2_method_1_code, exceptionTable := #[], attributes := #[] }
def k2m0 : Method := { name := "<init>", desc := "(JJ)V", sig := { parameters := [.long, .long], returnType := none }, accessFlags := 1, code := some k2c0 }
def k2c1 : Code := { maxStack := 4, maxLocals := 2, code := prog_2_method_4_code, exceptionTable := #[], attributes := #[] }
def k2m1 : Method := { name := "equals", desc := "(Ljava/lang/Object;)Z", sig := { parameters := [(.object "java/lang/Object")], returnType := some .boolean }, accessFlags := 1, code := some k2c1 }
/-- com/example/prim_canon/primcanon/compare/Difference -/
def k2 : Class := { plain "com/example/prim_canon/primcanon/compare/Difference" (some 0) with
  accessFlags := 49
  interfaces := #[]
  cf := some (fileOf pool2 8 #[] #[{ accessFlags := 1, nameIndex := 5, descriptorIndex := 26, attributes := #[] }, { accessFlags := 1, nameIndex := 30, descriptorIndex := 31, attributes := #[] }] 49 2 #[] #[{ accessFlags := 18, nameIndex := 11, descriptorIndex := 12, attributes := #[] }, { accessFlags := 18, nameIndex := 15, descriptorIndex := 12, attributes := #[] }])
  fields := #[{ name := "byteNumber", type := .long, accessFlags := 18, slot := 0, constantValue := 0 }, { name := "lineNumber", type := .long, accessFlags := 18, slot := 1, constantValue := 0 }]
  methods := #[k2m0, k2m1]
  instanceTypes := #[.long, .long]
  staticTypes := #[]
  resolved := Array.replicate 53 none
  statics := none }

def pool3 : Array CpInfo := pool [(1, .class_ 2), (0, u "java/io/Serializable"), (0, .class_ 4), (0, u "java/lang/Object")] 2

/-- java/io/Serializable -/
def k3 : Class := { plain "java/io/Serializable" (some 0) with
  accessFlags := 1537
  interfaces := #[]
  cf := some (fileOf pool3 1 #[] #[] 1537 3 #[] #[])
  fields := #[]
  methods := #[]
  instanceTypes := #[]
  staticTypes := #[]
  resolved := Array.replicate 7 none
  statics := none }

def pool4 : Array CpInfo := pool [(1, .methodref 2 3), (0, .class_ 4), (0, .nameAndType 5 6), (0, u "java/lang/Object"), (0, u "<init>"), (0, u "()V"), (1, .class_ 10), (1, u "java/lang/Number"), (2, .class_ 14), (0, u "java/io/Serializable"), (0, u "serialVersionUID"), (0, u "J")] 20

def k4c0 : Code := { maxStack := 1, maxLocals := 1, code := jdk_18_method_1_code, exceptionTable := #[], attributes := #[] }
def k4m0 : Method := { name := "<init>", desc := "()V", sig := { parameters := [], returnType := none }, accessFlags := 1, code := some k4c0 }
/-- java/lang/Number -/
def k4 : Class := { plain "java/lang/Number" (some 0) with
  accessFlags := 1057
  interfaces := #[3]
  cf := some (fileOf pool4 8 #[] #[{ accessFlags := 1, nameIndex := 5, descriptorIndex := 6, attributes := #[] }] 1057 2 #[13] #[{ accessFlags := 26, nameIndex := 15, descriptorIndex := 16, attributes := #[] }])
  fields := #[{ name := "serialVersionUID", type := .long, accessFlags := 26, slot := 0, constantValue := 0 }]
  methods := #[k4m0]
  instanceTypes := #[]
  staticTypes := #[.long]
  resolved := Array.replicate 37 none
  statics := none }

def pool5 : Array CpInfo := pool [(1, .class_ 2), (0, u "java/lang/Comparable"), (0, .class_ 4), (0, u "java/lang/Object")] 7

/-- java/lang/Comparable -/
def k5 : Class := { plain "java/lang/Comparable" (some 0) with
  accessFlags := 1537
  interfaces := #[]
  cf := some (fileOf pool5 1 #[] #[] 1537 3 #[] #[])
  fields := #[]
  methods := #[]
  instanceTypes := #[]
  staticTypes := #[]
  resolved := Array.replicate 12 none
  statics := none }

def pool6 : Array CpInfo := pool [(1, .class_ 2), (0, u "java/lang/constant/Constable"), (0, .class_ 4), (0, u "java/lang/Object")] 6

/-- java/lang/constant/Constable -/
def k6 : Class := { plain "java/lang/constant/Constable" (some 0) with
  accessFlags := 1537
  interfaces := #[]
  cf := some (fileOf pool6 1 #[] #[] 1537 3 #[] #[])
  fields := #[]
  methods := #[]
  instanceTypes := #[]
  staticTypes := #[]
  resolved := Array.replicate 11 none
  statics := none }

def pool7 : Array CpInfo := pool [(1, .class_ 2), (0, u "java/lang/constant/ConstantDesc"), (0, .class_ 4), (0, u "java/lang/Object")] 32

/-- java/lang/constant/ConstantDesc -/
def k7 : Class := { plain "java/lang/constant/ConstantDesc" (some 0) with
  accessFlags := 1537
  interfaces := #[]
  cf := some (fileOf pool7 1 #[] #[] 1537 3 #[] #[])
  fields := #[]
  methods := #[]
  instanceTypes := #[]
  staticTypes := #[]
  resolved := Array.replicate 37 none
  statics := none }

def pool8 : Array CpInfo := pool [(1, .class_ 2), (0, u "java/lang/Long"), (55, .nameAndType 59 60), (0, u "<init>"), (0, u "()V"), (24, u "valueOf"), (143, u "(J)Ljava/lang/Long;"), (0, .long 18446744073709551488), (1, .long 127), (1, .fieldref 235 236), (0, .class_ 237), (0, .nameAndType 238 239), (0, u "java/lang/Long$LongCache"), (0, u "cache"), (0, u "[Ljava/lang/Long;"), (0, .methodref 1 241), (0, .nameAndType 59 242), (0, u "(J)V"), (27, .methodref 271 58), (0, .class_ 272), (0, u "java/lang/Number"), (0, .fieldref 1 274), (0, .nameAndType 275 276), (0, u "value"), (0, u "J"), (84, u "TYPE"), (0, u "Ljava/lang/Class;"), (0, .class_ 364), (0, u "java/lang/Comparable"), (0, .class_ 366), (0, u "java/lang/constant/Constable"), (0, .class_ 368), (0, u "java/lang/constant/ConstantDesc"), (0, u "MIN_VALUE"), (1, u "MAX_VALUE"), (4, u "SIZE"), (0, u "I"), (1, u "BYTES"), (1, u "serialVersionUID")] 142

def k8c0 : Code := { maxStack := 4, maxLocals := 3, code := jdk_35_method_24_code, exceptionTable := #[], attributes := #[] }
def k8m0 : Method := { name := "valueOf", desc := "(J)Ljava/lang/Long;", sig := { parameters := [.long], returnType := some (.object "java/lang/Long") }, accessFlags := 9, code := some k8c0 }
def k8c1 : Code := { maxStack := 3, maxLocals := 3, code := jdk_35_method_26_code, exceptionTable := #[], attributes := #[] }
def k8m1 : Method := { name := "<init>", desc := "(J)V", sig := { parameters := [.long], returnType := none }, accessFlags := 1, code := some k8c1 }
/-- java/lang/Long -/
def k8 : Class := { plain "java/lang/Long" (some 4) with
  accessFlags := 49
  interfaces := #[5, 6, 7]
  cf := some (fileOf pool8 1 #[.nestMembers #[235]] #[{ accessFlags := 9, nameIndex := 85, descriptorIndex := 229, attributes := #[] }, { accessFlags := 1, nameIndex := 59, descriptorIndex := 242, attributes := #[] }] 49 271 #[363, 365, 367] #[{ accessFlags := 25, nameIndex := 369, descriptorIndex := 276, attributes := #[] }, { accessFlags := 25, nameIndex := 371, descriptorIndex := 276, attributes := #[] }, { accessFlags := 25, nameIndex := 361, descriptorIndex := 362, attributes := #[] }, { accessFlags := 18, nameIndex := 275, descriptorIndex := 276, attributes := #[] }, { accessFlags := 25, nameIndex := 376, descriptorIndex := 377, attributes := #[] }, { accessFlags := 25, nameIndex := 379, descriptorIndex := 377, attributes := #[] }, { accessFlags := 26, nameIndex := 381, descriptorIndex := 276, attributes := #[] }])
  fields := #[{ name := "MIN_VALUE", type := .long, accessFlags := 25, slot := 0, constantValue := 0 }, { name := "MAX_VALUE", type := .long, accessFlags := 25, slot := 1, constantValue := 0 }, { name := "TYPE", type := (.object "java/lang/Class"), accessFlags := 25, slot := 2, constantValue := 0 }, { name := "value", type := .long, accessFlags := 18, slot := 0, constantValue := 0 }, { name := "SIZE", type := .int, accessFlags := 25, slot := 3, constantValue := 0 }, { name := "BYTES", type := .int, accessFlags := 25, slot := 4, constantValue := 0 }, { name := "serialVersionUID", type := .long, accessFlags := 26, slot := 5, constantValue := 0 }]
  methods := #[k8m0, k8m1]
  instanceTypes := #[.long]
  staticTypes := #[.long, .long, (.object "java/lang/Class"), .int, .int, .long]
  resolved := Array.replicate 524 none
  statics := none }

def pool9 : Array CpInfo := pool [(2, .class_ 4), (1, u "java/lang/Object"), (0, u "<init>"), (0, u "()V"), (0, .class_ 8), (0, u "java/lang/Long"), (7, .class_ 18), (1, u "java/lang/Long$LongCache"), (0, u "$assertionsDisabled"), (0, u "Z"), (8, u "archivedCache"), (0, u "[Ljava/lang/Long;"), (7, u "cache")] 24

def k9m0 : Method := { name := "<init>", desc := "()V", sig := { parameters := [], returnType := none }, accessFlags := 2, code := none }
/-- java/lang/Long$LongCache -/
def k9 : Class := { plain "java/lang/Long$LongCache" (some 0) with
  accessFlags := 48
  interfaces := #[]
  cf := some (fileOf pool9 16 #[.nestHost 7] #[{ accessFlags := 2, nameIndex := 5, descriptorIndex := 6, attributes := #[] }] 48 2 #[] #[{ accessFlags := 24, nameIndex := 38, descriptorIndex := 30, attributes := #[] }, { accessFlags := 8, nameIndex := 29, descriptorIndex := 30, attributes := #[] }, { accessFlags := 4120, nameIndex := 19, descriptorIndex := 20, attributes := #[] }])
  fields := #[{ name := "cache", type := (.array (.object "java/lang/Long")), accessFlags := 24, slot := 0, constantValue := 0 }, { name := "archivedCache", type := (.array (.object "java/lang/Long")), accessFlags := 8, slot := 1, constantValue := 0 }, { name := "$assertionsDisabled", type := .boolean, accessFlags := 4120, slot := 2, constantValue := 0 }]
  methods := #[k9m0]
  instanceTypes := #[]
  staticTypes := #[(.array (.object "java/lang/Long")), (.array (.object "java/lang/Long")), .boolean]
  resolved := Array.replicate 63 none
  statics := some 0 }

def pool10 : Array CpInfo := pool [(1, u "java/lang/Cloneable"), (0, .class_ 1), (0, u "java/lang/Object"), (0, .class_ 3)] 3

/-- java/lang/Cloneable -/
def k10 : Class := { plain "java/lang/Cloneable" (some 0) with
  accessFlags := 1537
  interfaces := #[]
  cf := some (fileOf pool10 2 #[] #[] 1537 4 #[] #[])
  fields := #[]
  methods := #[]
  instanceTypes := #[]
  staticTypes := #[]
  resolved := Array.replicate 8 none
  statics := none }

/-- the primitive byte -/
def k11 : Class := { plain "byte" none with kind := .primitive 'B', accessFlags := 0x411 }
/-- [B -/
def k12 : Class := { plain "[B" (some 0) with kind := .array 11 .byte, interfaces := #[10, 3], accessFlags := 1041 }

/-- the primitive int -/
def k13 : Class := { plain "int" none with kind := .primitive 'I', accessFlags := 0x411 }
/-- [I -/
def k14 : Class := { plain "[I" (some 0) with kind := .array 13 .int, interfaces := #[10, 3], accessFlags := 1041 }

/-- [Ljava/lang/Long; -/
def k15 : Class := { plain "[Ljava/lang/Long;" (some 0) with kind := .array 8 (.object "java/lang/Long"), interfaces := #[10, 3], accessFlags := 1041 }

def heap : Heap := #[{ cls := 9, slots := #[.ref 1, .null, .int 0], vm := .statics 9 },
  { cls := 15, slots := #[.ref 2, .ref 3, .ref 4, .ref 5, .ref 6, .ref 7, .ref 8, .ref 9, .ref 10, .ref 11, .ref 12, .ref 13, .ref 14, .ref 15, .ref 16, .ref 17, .ref 18, .ref 19, .ref 20, .ref 21, .ref 22, .ref 23, .ref 24, .ref 25, .ref 26, .ref 27, .ref 28, .ref 29, .ref 30, .ref 31, .ref 32, .ref 33, .ref 34, .ref 35, .ref 36, .ref 37, .ref 38, .ref 39, .ref 40, .ref 41, .ref 42, .ref 43, .ref 44, .ref 45, .ref 46, .ref 47, .ref 48, .ref 49, .ref 50, .ref 51, .ref 52, .ref 53, .ref 54, .ref 55, .ref 56, .ref 57, .ref 58, .ref 59, .ref 60, .ref 61, .ref 62, .ref 63, .ref 64, .ref 65, .ref 66, .ref 67, .ref 68, .ref 69, .ref 70, .ref 71, .ref 72, .ref 73, .ref 74, .ref 75, .ref 76, .ref 77, .ref 78, .ref 79, .ref 80, .ref 81, .ref 82, .ref 83, .ref 84, .ref 85, .ref 86, .ref 87, .ref 88, .ref 89, .ref 90, .ref 91, .ref 92, .ref 93, .ref 94, .ref 95, .ref 96, .ref 97, .ref 98, .ref 99, .ref 100, .ref 101, .ref 102, .ref 103, .ref 104, .ref 105, .ref 106, .ref 107, .ref 108, .ref 109, .ref 110, .ref 111, .ref 112, .ref 113, .ref 114, .ref 115, .ref 116, .ref 117, .ref 118, .ref 119, .ref 120, .ref 121, .ref 122, .ref 123, .ref 124, .ref 125, .ref 126, .ref 127, .ref 128, .ref 129, .ref 130, .ref 131, .ref 132, .ref 133, .ref 134, .ref 135, .ref 136, .ref 137, .ref 138, .ref 139, .ref 140, .ref 141, .ref 142, .ref 143, .ref 144, .ref 145, .ref 146, .ref 147, .ref 148, .ref 149, .ref 150, .ref 151, .ref 152, .ref 153, .ref 154, .ref 155, .ref 156, .ref 157, .ref 158, .ref 159, .ref 160, .ref 161, .ref 162, .ref 163, .ref 164, .ref 165, .ref 166, .ref 167, .ref 168, .ref 169, .ref 170, .ref 171, .ref 172, .ref 173, .ref 174, .ref 175, .ref 176, .ref 177, .ref 178, .ref 179, .ref 180, .ref 181, .ref 182, .ref 183, .ref 184, .ref 185, .ref 186, .ref 187, .ref 188, .ref 189, .ref 190, .ref 191, .ref 192, .ref 193, .ref 194, .ref 195, .ref 196, .ref 197, .ref 198, .ref 199, .ref 200, .ref 201, .ref 202, .ref 203, .ref 204, .ref 205, .ref 206, .ref 207, .ref 208, .ref 209, .ref 210, .ref 211, .ref 212, .ref 213, .ref 214, .ref 215, .ref 216, .ref 217, .ref 218, .ref 219, .ref 220, .ref 221, .ref 222, .ref 223, .ref 224, .ref 225, .ref 226, .ref 227, .ref 228, .ref 229, .ref 230, .ref 231, .ref 232, .ref 233, .ref 234, .ref 235, .ref 236, .ref 237, .ref 238, .ref 239, .ref 240, .ref 241, .ref 242, .ref 243, .ref 244, .ref 245, .ref 246, .ref 247, .ref 248, .ref 249, .ref 250, .ref 251, .ref 252, .ref 253, .ref 254, .ref 255, .ref 256, .ref 257], vm := .none },
  { cls := 8, slots := #[.long (-128)], vm := .none },
  { cls := 8, slots := #[.long (-127)], vm := .none },
  { cls := 8, slots := #[.long (-126)], vm := .none },
  { cls := 8, slots := #[.long (-125)], vm := .none },
  { cls := 8, slots := #[.long (-124)], vm := .none },
  { cls := 8, slots := #[.long (-123)], vm := .none },
  { cls := 8, slots := #[.long (-122)], vm := .none },
  { cls := 8, slots := #[.long (-121)], vm := .none },
  { cls := 8, slots := #[.long (-120)], vm := .none },
  { cls := 8, slots := #[.long (-119)], vm := .none },
  { cls := 8, slots := #[.long (-118)], vm := .none },
  { cls := 8, slots := #[.long (-117)], vm := .none },
  { cls := 8, slots := #[.long (-116)], vm := .none },
  { cls := 8, slots := #[.long (-115)], vm := .none },
  { cls := 8, slots := #[.long (-114)], vm := .none },
  { cls := 8, slots := #[.long (-113)], vm := .none },
  { cls := 8, slots := #[.long (-112)], vm := .none },
  { cls := 8, slots := #[.long (-111)], vm := .none },
  { cls := 8, slots := #[.long (-110)], vm := .none },
  { cls := 8, slots := #[.long (-109)], vm := .none },
  { cls := 8, slots := #[.long (-108)], vm := .none },
  { cls := 8, slots := #[.long (-107)], vm := .none },
  { cls := 8, slots := #[.long (-106)], vm := .none },
  { cls := 8, slots := #[.long (-105)], vm := .none },
  { cls := 8, slots := #[.long (-104)], vm := .none },
  { cls := 8, slots := #[.long (-103)], vm := .none },
  { cls := 8, slots := #[.long (-102)], vm := .none },
  { cls := 8, slots := #[.long (-101)], vm := .none },
  { cls := 8, slots := #[.long (-100)], vm := .none },
  { cls := 8, slots := #[.long (-99)], vm := .none },
  { cls := 8, slots := #[.long (-98)], vm := .none },
  { cls := 8, slots := #[.long (-97)], vm := .none },
  { cls := 8, slots := #[.long (-96)], vm := .none },
  { cls := 8, slots := #[.long (-95)], vm := .none },
  { cls := 8, slots := #[.long (-94)], vm := .none },
  { cls := 8, slots := #[.long (-93)], vm := .none },
  { cls := 8, slots := #[.long (-92)], vm := .none },
  { cls := 8, slots := #[.long (-91)], vm := .none },
  { cls := 8, slots := #[.long (-90)], vm := .none },
  { cls := 8, slots := #[.long (-89)], vm := .none },
  { cls := 8, slots := #[.long (-88)], vm := .none },
  { cls := 8, slots := #[.long (-87)], vm := .none },
  { cls := 8, slots := #[.long (-86)], vm := .none },
  { cls := 8, slots := #[.long (-85)], vm := .none },
  { cls := 8, slots := #[.long (-84)], vm := .none },
  { cls := 8, slots := #[.long (-83)], vm := .none },
  { cls := 8, slots := #[.long (-82)], vm := .none },
  { cls := 8, slots := #[.long (-81)], vm := .none },
  { cls := 8, slots := #[.long (-80)], vm := .none },
  { cls := 8, slots := #[.long (-79)], vm := .none },
  { cls := 8, slots := #[.long (-78)], vm := .none },
  { cls := 8, slots := #[.long (-77)], vm := .none },
  { cls := 8, slots := #[.long (-76)], vm := .none },
  { cls := 8, slots := #[.long (-75)], vm := .none },
  { cls := 8, slots := #[.long (-74)], vm := .none },
  { cls := 8, slots := #[.long (-73)], vm := .none },
  { cls := 8, slots := #[.long (-72)], vm := .none },
  { cls := 8, slots := #[.long (-71)], vm := .none },
  { cls := 8, slots := #[.long (-70)], vm := .none },
  { cls := 8, slots := #[.long (-69)], vm := .none },
  { cls := 8, slots := #[.long (-68)], vm := .none },
  { cls := 8, slots := #[.long (-67)], vm := .none },
  { cls := 8, slots := #[.long (-66)], vm := .none },
  { cls := 8, slots := #[.long (-65)], vm := .none },
  { cls := 8, slots := #[.long (-64)], vm := .none },
  { cls := 8, slots := #[.long (-63)], vm := .none },
  { cls := 8, slots := #[.long (-62)], vm := .none },
  { cls := 8, slots := #[.long (-61)], vm := .none },
  { cls := 8, slots := #[.long (-60)], vm := .none },
  { cls := 8, slots := #[.long (-59)], vm := .none },
  { cls := 8, slots := #[.long (-58)], vm := .none },
  { cls := 8, slots := #[.long (-57)], vm := .none },
  { cls := 8, slots := #[.long (-56)], vm := .none },
  { cls := 8, slots := #[.long (-55)], vm := .none },
  { cls := 8, slots := #[.long (-54)], vm := .none },
  { cls := 8, slots := #[.long (-53)], vm := .none },
  { cls := 8, slots := #[.long (-52)], vm := .none },
  { cls := 8, slots := #[.long (-51)], vm := .none },
  { cls := 8, slots := #[.long (-50)], vm := .none },
  { cls := 8, slots := #[.long (-49)], vm := .none },
  { cls := 8, slots := #[.long (-48)], vm := .none },
  { cls := 8, slots := #[.long (-47)], vm := .none },
  { cls := 8, slots := #[.long (-46)], vm := .none },
  { cls := 8, slots := #[.long (-45)], vm := .none },
  { cls := 8, slots := #[.long (-44)], vm := .none },
  { cls := 8, slots := #[.long (-43)], vm := .none },
  { cls := 8, slots := #[.long (-42)], vm := .none },
  { cls := 8, slots := #[.long (-41)], vm := .none },
  { cls := 8, slots := #[.long (-40)], vm := .none },
  { cls := 8, slots := #[.long (-39)], vm := .none },
  { cls := 8, slots := #[.long (-38)], vm := .none },
  { cls := 8, slots := #[.long (-37)], vm := .none },
  { cls := 8, slots := #[.long (-36)], vm := .none },
  { cls := 8, slots := #[.long (-35)], vm := .none },
  { cls := 8, slots := #[.long (-34)], vm := .none },
  { cls := 8, slots := #[.long (-33)], vm := .none },
  { cls := 8, slots := #[.long (-32)], vm := .none },
  { cls := 8, slots := #[.long (-31)], vm := .none },
  { cls := 8, slots := #[.long (-30)], vm := .none },
  { cls := 8, slots := #[.long (-29)], vm := .none },
  { cls := 8, slots := #[.long (-28)], vm := .none },
  { cls := 8, slots := #[.long (-27)], vm := .none },
  { cls := 8, slots := #[.long (-26)], vm := .none },
  { cls := 8, slots := #[.long (-25)], vm := .none },
  { cls := 8, slots := #[.long (-24)], vm := .none },
  { cls := 8, slots := #[.long (-23)], vm := .none },
  { cls := 8, slots := #[.long (-22)], vm := .none },
  { cls := 8, slots := #[.long (-21)], vm := .none },
  { cls := 8, slots := #[.long (-20)], vm := .none },
  { cls := 8, slots := #[.long (-19)], vm := .none },
  { cls := 8, slots := #[.long (-18)], vm := .none },
  { cls := 8, slots := #[.long (-17)], vm := .none },
  { cls := 8, slots := #[.long (-16)], vm := .none },
  { cls := 8, slots := #[.long (-15)], vm := .none },
  { cls := 8, slots := #[.long (-14)], vm := .none },
  { cls := 8, slots := #[.long (-13)], vm := .none },
  { cls := 8, slots := #[.long (-12)], vm := .none },
  { cls := 8, slots := #[.long (-11)], vm := .none },
  { cls := 8, slots := #[.long (-10)], vm := .none },
  { cls := 8, slots := #[.long (-9)], vm := .none },
  { cls := 8, slots := #[.long (-8)], vm := .none },
  { cls := 8, slots := #[.long (-7)], vm := .none },
  { cls := 8, slots := #[.long (-6)], vm := .none },
  { cls := 8, slots := #[.long (-5)], vm := .none },
  { cls := 8, slots := #[.long (-4)], vm := .none },
  { cls := 8, slots := #[.long (-3)], vm := .none },
  { cls := 8, slots := #[.long (-2)], vm := .none },
  { cls := 8, slots := #[.long (-1)], vm := .none },
  { cls := 8, slots := #[.long 0], vm := .none },
  { cls := 8, slots := #[.long 1], vm := .none },
  { cls := 8, slots := #[.long 2], vm := .none },
  { cls := 8, slots := #[.long 3], vm := .none },
  { cls := 8, slots := #[.long 4], vm := .none },
  { cls := 8, slots := #[.long 5], vm := .none },
  { cls := 8, slots := #[.long 6], vm := .none },
  { cls := 8, slots := #[.long 7], vm := .none },
  { cls := 8, slots := #[.long 8], vm := .none },
  { cls := 8, slots := #[.long 9], vm := .none },
  { cls := 8, slots := #[.long 10], vm := .none },
  { cls := 8, slots := #[.long 11], vm := .none },
  { cls := 8, slots := #[.long 12], vm := .none },
  { cls := 8, slots := #[.long 13], vm := .none },
  { cls := 8, slots := #[.long 14], vm := .none },
  { cls := 8, slots := #[.long 15], vm := .none },
  { cls := 8, slots := #[.long 16], vm := .none },
  { cls := 8, slots := #[.long 17], vm := .none },
  { cls := 8, slots := #[.long 18], vm := .none },
  { cls := 8, slots := #[.long 19], vm := .none },
  { cls := 8, slots := #[.long 20], vm := .none },
  { cls := 8, slots := #[.long 21], vm := .none },
  { cls := 8, slots := #[.long 22], vm := .none },
  { cls := 8, slots := #[.long 23], vm := .none },
  { cls := 8, slots := #[.long 24], vm := .none },
  { cls := 8, slots := #[.long 25], vm := .none },
  { cls := 8, slots := #[.long 26], vm := .none },
  { cls := 8, slots := #[.long 27], vm := .none },
  { cls := 8, slots := #[.long 28], vm := .none },
  { cls := 8, slots := #[.long 29], vm := .none },
  { cls := 8, slots := #[.long 30], vm := .none },
  { cls := 8, slots := #[.long 31], vm := .none },
  { cls := 8, slots := #[.long 32], vm := .none },
  { cls := 8, slots := #[.long 33], vm := .none },
  { cls := 8, slots := #[.long 34], vm := .none },
  { cls := 8, slots := #[.long 35], vm := .none },
  { cls := 8, slots := #[.long 36], vm := .none },
  { cls := 8, slots := #[.long 37], vm := .none },
  { cls := 8, slots := #[.long 38], vm := .none },
  { cls := 8, slots := #[.long 39], vm := .none },
  { cls := 8, slots := #[.long 40], vm := .none },
  { cls := 8, slots := #[.long 41], vm := .none },
  { cls := 8, slots := #[.long 42], vm := .none },
  { cls := 8, slots := #[.long 43], vm := .none },
  { cls := 8, slots := #[.long 44], vm := .none },
  { cls := 8, slots := #[.long 45], vm := .none },
  { cls := 8, slots := #[.long 46], vm := .none },
  { cls := 8, slots := #[.long 47], vm := .none },
  { cls := 8, slots := #[.long 48], vm := .none },
  { cls := 8, slots := #[.long 49], vm := .none },
  { cls := 8, slots := #[.long 50], vm := .none },
  { cls := 8, slots := #[.long 51], vm := .none },
  { cls := 8, slots := #[.long 52], vm := .none },
  { cls := 8, slots := #[.long 53], vm := .none },
  { cls := 8, slots := #[.long 54], vm := .none },
  { cls := 8, slots := #[.long 55], vm := .none },
  { cls := 8, slots := #[.long 56], vm := .none },
  { cls := 8, slots := #[.long 57], vm := .none },
  { cls := 8, slots := #[.long 58], vm := .none },
  { cls := 8, slots := #[.long 59], vm := .none },
  { cls := 8, slots := #[.long 60], vm := .none },
  { cls := 8, slots := #[.long 61], vm := .none },
  { cls := 8, slots := #[.long 62], vm := .none },
  { cls := 8, slots := #[.long 63], vm := .none },
  { cls := 8, slots := #[.long 64], vm := .none },
  { cls := 8, slots := #[.long 65], vm := .none },
  { cls := 8, slots := #[.long 66], vm := .none },
  { cls := 8, slots := #[.long 67], vm := .none },
  { cls := 8, slots := #[.long 68], vm := .none },
  { cls := 8, slots := #[.long 69], vm := .none },
  { cls := 8, slots := #[.long 70], vm := .none },
  { cls := 8, slots := #[.long 71], vm := .none },
  { cls := 8, slots := #[.long 72], vm := .none },
  { cls := 8, slots := #[.long 73], vm := .none },
  { cls := 8, slots := #[.long 74], vm := .none },
  { cls := 8, slots := #[.long 75], vm := .none },
  { cls := 8, slots := #[.long 76], vm := .none },
  { cls := 8, slots := #[.long 77], vm := .none },
  { cls := 8, slots := #[.long 78], vm := .none },
  { cls := 8, slots := #[.long 79], vm := .none },
  { cls := 8, slots := #[.long 80], vm := .none },
  { cls := 8, slots := #[.long 81], vm := .none },
  { cls := 8, slots := #[.long 82], vm := .none },
  { cls := 8, slots := #[.long 83], vm := .none },
  { cls := 8, slots := #[.long 84], vm := .none },
  { cls := 8, slots := #[.long 85], vm := .none },
  { cls := 8, slots := #[.long 86], vm := .none },
  { cls := 8, slots := #[.long 87], vm := .none },
  { cls := 8, slots := #[.long 88], vm := .none },
  { cls := 8, slots := #[.long 89], vm := .none },
  { cls := 8, slots := #[.long 90], vm := .none },
  { cls := 8, slots := #[.long 91], vm := .none },
  { cls := 8, slots := #[.long 92], vm := .none },
  { cls := 8, slots := #[.long 93], vm := .none },
  { cls := 8, slots := #[.long 94], vm := .none },
  { cls := 8, slots := #[.long 95], vm := .none },
  { cls := 8, slots := #[.long 96], vm := .none },
  { cls := 8, slots := #[.long 97], vm := .none },
  { cls := 8, slots := #[.long 98], vm := .none },
  { cls := 8, slots := #[.long 99], vm := .none },
  { cls := 8, slots := #[.long 100], vm := .none },
  { cls := 8, slots := #[.long 101], vm := .none },
  { cls := 8, slots := #[.long 102], vm := .none },
  { cls := 8, slots := #[.long 103], vm := .none },
  { cls := 8, slots := #[.long 104], vm := .none },
  { cls := 8, slots := #[.long 105], vm := .none },
  { cls := 8, slots := #[.long 106], vm := .none },
  { cls := 8, slots := #[.long 107], vm := .none },
  { cls := 8, slots := #[.long 108], vm := .none },
  { cls := 8, slots := #[.long 109], vm := .none },
  { cls := 8, slots := #[.long 110], vm := .none },
  { cls := 8, slots := #[.long 111], vm := .none },
  { cls := 8, slots := #[.long 112], vm := .none },
  { cls := 8, slots := #[.long 113], vm := .none },
  { cls := 8, slots := #[.long 114], vm := .none },
  { cls := 8, slots := #[.long 115], vm := .none },
  { cls := 8, slots := #[.long 116], vm := .none },
  { cls := 8, slots := #[.long 117], vm := .none },
  { cls := 8, slots := #[.long 118], vm := .none },
  { cls := 8, slots := #[.long 119], vm := .none },
  { cls := 8, slots := #[.long 120], vm := .none },
  { cls := 8, slots := #[.long 121], vm := .none },
  { cls := 8, slots := #[.long 122], vm := .none },
  { cls := 8, slots := #[.long 123], vm := .none },
  { cls := 8, slots := #[.long 124], vm := .none },
  { cls := 8, slots := #[.long 125], vm := .none },
  { cls := 8, slots := #[.long 126], vm := .none },
  { cls := 8, slots := #[.long 127], vm := .none }]
def classes : Array Class := #[k0, k1, k2, k3, k4, k5, k6, k7, k8, k9, k10, k11, k12, k13, k14, k15]
def interned : List (Array UInt16 × Addr) := []
def slotsUsed : Nat := 515
def theMethod : MethodId := ⟨1, 1⟩
def args0 : Array Value := #[.long 1, .long 2, .long 3, .long 4, .int 5]
def aboutOver (below : List Frame) : State where
  vm := { classes := classes, interned := interned.toArray }
  heap := heap
  slotsUsed := slotsUsed
  threads := #[{ frames := .invoking theMethod args0 :: below }]
def below0 : List Frame := [.native { method := ⟨0, 0⟩, args := #[] }]
def about1 : State := aboutOver below0
def p0 : Program := .bare "" "" ""
def e0 : Env := launch0.env 0 0 0
theorem w_frames : about1.frames = Frame.invoking theMethod args0 :: below0 := rfl
set_option maxRecDepth 65536 in
theorem w_args : argsFit about1.vm theMethod args0 = true := by decide +kernel
set_option maxRecDepth 65536 in
theorem w_heap : heapFits about1 = true := by decide +kernel
set_option maxRecDepth 65536 in
theorem w_runnable : about1.curStatus? = some .runnable := by decide +kernel
set_option maxRecDepth 65536 in
theorem w_alone : about1.alone = true := by decide +kernel
set_option maxRecDepth 65536 in
theorem w_named : about1.methodNamed? x = some theMethod := by decide +kernel
set_option maxRecDepth 65536 in
theorem w_hears : about1.hears theMethod below0 = true := by decide +kernel
set_option maxRecDepth 65536 in
theorem w_ripe : about1.ripe theMethod args0 below0 = true := by decide +kernel
theorem w_running : about1.status = .running := rfl
set_option maxRecDepth 65536 in
theorem w_room : about1.hasRoom e0.platform room_1 = true :=
  launch0.hasRoom_least _ room_1 (by decide +kernel) (by decide +kernel) (by decide +kernel) (by decide +kernel) (by decide +kernel) (by decide +kernel)
theorem allAtoms_all (ts : List Jvm.Cond) (a : Array Jvm.Value) (st : Jvm.State) : (allAtoms ts).before a st = ts.all (fun c => c.before a st) := by
  induction ts with
  | nil => rfl
  | cons c t ih =>
    show (Jvm.Cond.and c (allAtoms t)).before a st = _
    rw [Jvm.Cond.before_and, ih, List.all_cons]
def words1 : List Jvm.Cond := Jvm.Cond.code x code maxLocals ret :: tables_1
/-- a 'code' word, met by the world's own term for the bytes: nothing is compared byte by byte -/
theorem code_word {y : MethodName} {bytes : ByteArray} {mx : Nat} {rt : Option FieldType} {a : Array Value} {s : State} {m : MethodId} {meth : Method} {c : Code} (h1 : s.methodNamed? y = some m) (h2 : s.vm.method? m = some meth) (h3 : meth.code = some c) (h4 : c.code = bytes)
    (h5 : (c.maxLocals == mx && c.exceptionTable.isEmpty && decide (c.maxStack ≤ mostOperands) && decide (meth.sig.returnType = rt) && !meth.locks && decide (parseMethodDescriptor y.desc = some meth.sig)) = true) : (Jvm.Cond.code y bytes mx rt).before a s = true := by
  simp only [Bool.and_eq_true, beq_iff_eq, Bool.not_eq_true', decide_eq_true_eq] at h5
  obtain ⟨⟨⟨⟨⟨g1, g2⟩, g3⟩, g4⟩, g5⟩, g6⟩ := h5
  simp [Cond.before, Cond.holds, Cond.value, h1, h2, h3, h4, g1, g2, g3, g4, g5, g6]
def isCode : Jvm.Cond → Bool
  | .code _ _ _ _ => true
  | _ => false
theorem all_split {L : List Jvm.Cond} {P : Jvm.Cond → Bool} (h1 : L.all (fun c => isCode c || P c) = true) (h2 : ∀ c ∈ L.filter isCode, P c = true) : L.all P = true := by
  refine List.all_eq_true.mpr fun c hc => ?_
  have h := List.all_eq_true.mp h1 c hc
  rcases Bool.eq_false_or_eq_true (isCode c) with hi | hi
  · exact h2 c (List.mem_filter.mpr ⟨hc, hi⟩)
  · simpa [hi] using h
set_option maxRecDepth 65536 in
theorem w_c0 : (Jvm.Cond.code x code maxLocals ret).before args0 about1 = true := code_word (m := ⟨1, 1⟩) (meth := k1m1) (c := k1c1) (by decide +kernel) rfl rfl rfl (by decide +kernel)
set_option maxRecDepth 65536 in
theorem w_c1 : (Jvm.Cond.code ({ cls := "com/example/prim_canon/primcanon/compare/Difference", name := "<init>", desc := "(JJ)V" } : Jvm.MethodName) prog_2_method_1_code (5 : Nat) (Option.none : Option Jvm.ClassFile.FieldType)).before args0 about1 = true := code_word (m := ⟨2, 0⟩) (meth := k2m0) (c := k2c0) (by decide +kernel) rfl rfl rfl (by decide +kernel)
set_option maxRecDepth 65536 in
theorem w_c2 : (Jvm.Cond.code ({ cls := "java/lang/Object", name := "<init>", desc := "()V" } : Jvm.MethodName) object_method_1_code (1 : Nat) (Option.none : Option Jvm.ClassFile.FieldType)).before args0 about1 = true := code_word (m := ⟨0, 0⟩) (meth := k0m0) (c := k0c0) (by decide +kernel) rfl rfl rfl (by decide +kernel)
set_option maxRecDepth 65536 in
theorem w_c3 : (Jvm.Cond.code ({ cls := "java/lang/Long", name := "valueOf", desc := "(J)Ljava/lang/Long;" } : Jvm.MethodName) jdk_35_method_24_code (3 : Nat) (Option.some (Jvm.ClassFile.FieldType.object "java/lang/Long"))).before args0 about1 = true := code_word (m := ⟨8, 0⟩) (meth := k8m0) (c := k8c0) (by decide +kernel) rfl rfl rfl (by decide +kernel)
set_option maxRecDepth 65536 in
theorem w_c4 : (Jvm.Cond.code ({ cls := "com/example/prim_canon/primcanon/compare/Difference", name := "equals", desc := "(Ljava/lang/Object;)Z" } : Jvm.MethodName) prog_2_method_4_code (2 : Nat) (Option.some Jvm.ClassFile.FieldType.boolean)).before args0 about1 = true := code_word (m := ⟨2, 1⟩) (meth := k2m1) (c := k2c1) (by decide +kernel) rfl rfl rfl (by decide +kernel)
set_option maxRecDepth 65536 in
theorem w_c5 : (Jvm.Cond.code ({ cls := "java/lang/Long", name := "<init>", desc := "(J)V" } : Jvm.MethodName) jdk_35_method_26_code (3 : Nat) (Option.none : Option Jvm.ClassFile.FieldType)).before args0 about1 = true := code_word (m := ⟨8, 1⟩) (meth := k8m1) (c := k8c1) (by decide +kernel) rfl rfl rfl (by decide +kernel)
set_option maxRecDepth 65536 in
theorem w_c6 : (Jvm.Cond.code ({ cls := "java/lang/Number", name := "<init>", desc := "()V" } : Jvm.MethodName) jdk_18_method_1_code (1 : Nat) (Option.none : Option Jvm.ClassFile.FieldType)).before args0 about1 = true := code_word (m := ⟨4, 0⟩) (meth := k4m0) (c := k4c0) (by decide +kernel) rfl rfl rfl (by decide +kernel)
def codes1 : List Jvm.Cond := [Jvm.Cond.code x code maxLocals ret, Jvm.Cond.code ({ cls := "com/example/prim_canon/primcanon/compare/Difference", name := "<init>", desc := "(JJ)V" } : Jvm.MethodName) prog_2_method_1_code (5 : Nat) (Option.none : Option Jvm.ClassFile.FieldType), Jvm.Cond.code ({ cls := "java/lang/Object", name := "<init>", desc := "()V" } : Jvm.MethodName) object_method_1_code (1 : Nat) (Option.none : Option Jvm.ClassFile.FieldType), Jvm.Cond.code ({ cls := "java/lang/Long", name := "valueOf", desc := "(J)Ljava/lang/Long;" } : Jvm.MethodName) jdk_35_method_24_code (3 : Nat) (Option.some (Jvm.ClassFile.FieldType.object "java/lang/Long")), Jvm.Cond.code ({ cls := "com/example/prim_canon/primcanon/compare/Difference", name := "equals", desc := "(Ljava/lang/Object;)Z" } : Jvm.MethodName) prog_2_method_4_code (2 : Nat) (Option.some Jvm.ClassFile.FieldType.boolean), Jvm.Cond.code ({ cls := "java/lang/Long", name := "<init>", desc := "(J)V" } : Jvm.MethodName) jdk_35_method_26_code (3 : Nat) (Option.none : Option Jvm.ClassFile.FieldType), Jvm.Cond.code ({ cls := "java/lang/Number", name := "<init>", desc := "()V" } : Jvm.MethodName) jdk_18_method_1_code (1 : Nat) (Option.none : Option Jvm.ClassFile.FieldType)]
set_option maxRecDepth 65536 in
theorem codes_eq : words1.filter isCode = codes1 := rfl
theorem w_codes : ∀ c ∈ words1.filter isCode, c.before args0 about1 = true := by
  rw [codes_eq]
  intro c hc
  simp only [codes1, List.mem_cons, List.not_mem_nil, or_false] at hc
  rcases hc with rfl | rfl | rfl | rfl | rfl | rfl | rfl
  · exact w_c0
  · exact w_c1
  · exact w_c2
  · exact w_c3
  · exact w_c4
  · exact w_c5
  · exact w_c6
set_option maxRecDepth 65536 in
theorem w_t1 : (words1.take 24).all (fun c => isCode c || c.before args0 about1) = true := by decide +kernel
set_option maxRecDepth 65536 in
theorem w_t2 : (words1.drop 24).all (fun c => isCode c || c.before args0 about1) = true := by decide +kernel
theorem w_tables : (allAtoms (Jvm.Cond.code x code maxLocals ret :: tables_1)).before args0 about1 = true := by
  rw [allAtoms_all]
  show words1.all (fun c => c.before args0 about1) = true
  refine all_split ?_ w_codes
  rw [← List.take_append_drop 24 words1, List.all_append, w_t1, w_t2]
  rfl
set_option maxRecDepth 65536 in
theorem w_rest : rest_1_c.before args0 about1 = true := by decide +kernel
set_option maxRecDepth 65536 in
theorem w_case : (Jvm.Cond.and given_1 narrow_1).before args0 about1 = true := by decide +kernel
theorem w_applies : (headSpec (Jvm.Cond.code x code maxLocals ret :: tables_1) room_1).applies x e0.platform about1 = true :=
  (Spec.applies_iff w_frames).mpr ⟨w_running, w_runnable, w_alone, w_named, w_hears, w_ripe, w_room, w_tables⟩
theorem atStart : AtStart classFile x code maxLocals ret World_1 tables_1 room_1 Calls_1 rest_1 Pre_1 launch0 p0 e0 about1 theMethod args0 below0 :=
  ⟨lists_1, trivial, launch0.admits_env _ _ _, launch0.least_env, fairChoices_fair.cas, fairChoices_fair.clock, w_frames, w_args, w_heap, w_applies, trivial, w_rest, w_case⟩
end start1
theorem witness_1 : WitnessClaimed_1 := ⟨start1.p0, start1.e0, start1.about1, start1.theMethod, start1.args0, start1.below0, start1.atStart⟩
end Jvm.Pilot.@@N@@
