import JvmDerived
import JvmDerived.Pilot.@@N@@Statement
import JvmDerived.Pilot.@@N@@Code
set_option linter.unusedVariables false
set_option linter.unusedSimpArgs false
@@BLOCK:NumsL.lean.txt@@
namespace Jvm.Own
open Sem ClassFile Op Lib Jvm.Stand Jvm.Free Jvm.LawKit Jvm.RoadKit
/-! a list of owned cells (all made since the start), each with what it holds; the start's own heap stays as it was -/
abbrev FK := String × String × String
abbrev Fs := List (FK × Value)
abbrev Rec := (String × Fs) ⊕ (FieldType × List Value × Bool)
abbrev Ent := Addr × Rec
def slK (Z : State) (k : FK) : Nat := RoadKit.slotOf Z k.1 k.2.1 k.2.2
def Hold (Z : State) (h : Heap) (a : Addr) : Rec → Prop
  | .inl (C, fs) => Exa Z h a C ∧ (∀ (i : Nat) (f : FK × Value), fs[i]? = some f → Fld Z h a f.1.1 f.1.2.1 f.1.2.2 f.2) ∧ (fs.map fun f => slK Z f.1).Nodup
  | .inr (ty, vs, b) => ∃ c : Cell, Arr Z h a c ty ∧ c.slots.toList = vs ∧ (b = true → (∀ C, ty = .object C → Ovr Z c.cls C) ∧ (∀ t, ty = .array t → OvrA Z c.cls t ty.toString) ∧ Exa Z h a ("[" ++ ty.toString))
def Rep (Z : State) (h : Heap) (M : List Ent) : Prop := Ext Z.heap h ∧ (∀ (i : Nat) (x : Ent), M[i]? = some x → Z.heap.size ≤ x.1 ∧ Hold Z h x.1 x.2) ∧ (M.map fun x => x.1).Nodup
section Facts
variable {Z : State} {h h' : Heap} {a b : Addr} {sl k j : Nat} {v w : Value} {r : Rec} {M : List Ent} {C : String} {fs : Fs} {f : FK}
theorem Hold.other (W : Wr h h' a sl v) (H : Hold Z h b r) (hne : b ≠ a) : Hold Z h' b r := by
  rcases r with ⟨C, fs⟩ | ⟨ty, vs, b'⟩
  · exact ⟨H.1.wr W, fun i f hf => (H.2.1 i f hf).other W (Or.inl hne), H.2.2⟩
  · obtain ⟨c, A, q⟩ := H
    exact ⟨c, A.other W hne, q.1, fun t => ⟨(q.2 t).1, (q.2 t).2.1, (q.2 t).2.2.wr W⟩⟩
theorem Hold.ext (E : Ext h h') (H : Hold Z h b r) : Hold Z h' b r := by
  rcases r with ⟨C, fs⟩ | ⟨ty, vs, b'⟩
  · exact ⟨H.1.ext E, fun i f hf => (H.2.1 i f hf).ext E, H.2.2⟩
  · obtain ⟨c, A, q⟩ := H
    exact ⟨c, A.ext E, q.1, fun t => ⟨(q.2 t).1, (q.2 t).2.1, (q.2 t).2.2.ext E⟩⟩
theorem Hold.lt (H : Hold Z h b r) : b < h.size := by
  rcases r with ⟨C, fs⟩ | ⟨ty, vs, b'⟩
  · exact H.1.lt
  · obtain ⟨c, A, q⟩ := H
    exact A.lt
theorem nd_inj {α : Type} {L : List α} (hn : L.Nodup) {i j : Nat} {x : α} (h1 : L[i]? = some x) (h2 : L[j]? = some x) : i = j :=
  (List.getElem?_inj (List.getElem?_eq_some_iff.mp h1).1 hn).mp (h1.trans h2.symm)
theorem Rep.inj (R : Rep Z h M) {i j : Nat} {x y : Ent} (h1 : M[i]? = some x) (h2 : M[j]? = some y) (e : x.1 = y.1) : i = j :=
  nd_inj (x := x.1) R.2.2 (by rw [List.getElem?_map, h1]; rfl) (by rw [List.getElem?_map, h2, e]; rfl)
theorem Rep.ne (R : Rep Z h M) {i j : Nat} {x y : Ent} (h1 : M[i]? = some x) (h2 : M[j]? = some y) (e : i ≠ j) : x.1 ≠ y.1 := fun q => e (R.inj h1 h2 q)
theorem Rep.fresh (R : Rep Z h M) {i : Nat} {x : Ent} (h1 : M[i]? = some x) : Z.heap.size ≤ x.1 := (R.2.1 i x h1).1
theorem map_set_same {α β : Type} {g : α → β} {L : List α} {x y : α} (h1 : L[k]? = some x) (e : g y = g x) : (L.set k y).map g = L.map g := by
  apply List.ext_getElem?
  intro i
  simp only [List.getElem?_map, List.getElem?_set]
  by_cases q : k = i
  · subst q
    obtain ⟨hl, hx⟩ := List.getElem?_eq_some_iff.mp h1
    simp [hl, e, h1, hx]
  · simp [q]
theorem Rep.wrote (R : Rep Z h M) (hk : M[k]? = some (a, r)) (W : Wr h h' a sl v) {r' : Rec} (H : Hold Z h' a r') : Rep Z h' (M.set k (a, r')) := by
  have ha := R.fresh hk
  refine ⟨(Old.wr ⟨rfl, R.1⟩ W ha).2, fun i x hx => ?_, ?_⟩
  · rw [List.getElem?_set] at hx
    by_cases q : k = i
    · subst q
      rw [if_pos rfl] at hx
      split at hx
      · cases hx
        exact ⟨ha, H⟩
      · cases hx
    · rw [if_neg q] at hx
      have g := R.2.1 i x hx
      exact ⟨g.1, g.2.other W (R.ne hx hk (Ne.symm q))⟩
  · rw [map_set_same (g := fun x : Ent => x.1) (y := (a, r')) hk rfl]
    exact R.2.2
theorem Hold.put (H : Hold Z h a (.inl (C, fs))) (hj : fs[j]? = some (f, w)) (W : Wr h h' a (slK Z f) v) : Hold Z h' a (.inl (C, fs.set j (f, v))) := by
  refine ⟨H.1.wr W, fun i x hx => ?_, ?_⟩
  · rw [List.getElem?_set] at hx
    by_cases q : j = i
    · subst q
      rw [if_pos rfl] at hx
      split at hx
      · cases hx
        exact (H.2.1 _ _ hj).same W
      · cases hx
    · rw [if_neg q] at hx
      refine (H.2.1 i x hx).other W (Or.inr fun e => q ?_)
      exact nd_inj (x := slK Z f) H.2.2 (by rw [List.getElem?_map, hj]; rfl) (by rw [List.getElem?_map, hx]; exact congrArg some e)
  · rw [map_set_same (g := fun f : FK × Value => slK Z f.1) (y := (f, v)) hj rfl]
    exact H.2.2
theorem Hold.store {ty : FieldType} {vs : List Value} {b : Bool} (H : Hold Z h a (.inr (ty, vs, b))) (W : Wr h h' a j v) : Hold Z h' a (.inr (ty, vs.set j v, b)) := by
  obtain ⟨c, A, q, o⟩ := H
  refine ⟨_, A.same W, ?_, fun t => ⟨(o t).1, (o t).2.1, (o t).2.2.wr W⟩⟩
  simp [Cell.setSlot, ← q]
theorem Rep.new (R : Rep Z h M) (E : Ext h h') (hs : a = h.size) {r : Rec} (H : Hold Z h' a r) : Rep Z h' ((a, r) :: M) := by
  refine ⟨(Old.ext ⟨rfl, R.1⟩ E).2, fun i x hx => ?_, ?_⟩
  · rcases i with _ | i
    · cases hx
      exact ⟨by rw [hs]; exact R.1.1, H⟩
    · have g := R.2.1 i x hx
      exact ⟨g.1, g.2.ext E⟩
  · rw [List.map_cons, List.nodup_cons]
    refine ⟨fun m => ?_, R.2.2⟩
    obtain ⟨x, hx, e⟩ := List.mem_map.mp m
    obtain ⟨i, hi⟩ := List.mem_iff_getElem?.mp hx
    have hlt := (R.2.1 i x hi).2.lt
    have e : x.1 = a := e
    rw [e, hs] at hlt
    exact Nat.lt_irrefl _ hlt
theorem nd_pick {α : Type} {N : List α} (hn : N.Nodup) (n : Nat) (idx : List Nat) (h1 : idx.Nodup) (h2 : ∀ i ∈ idx, i < n) : (idx.filterMap (fun i => N[i]?) ++ N.drop n).Nodup := by
  rw [List.nodup_append]
  refine ⟨?_, hn.sublist (List.drop_sublist n N), ?_⟩
  · refine List.Pairwise.filterMap (fun i => N[i]?) ?_ h1
    intro i j hij x hx y hy e
    subst e
    exact hij (nd_inj hn hx hy)
  · intro x hx y hy e
    subst e
    obtain ⟨i, hi, hx⟩ := List.mem_filterMap.mp hx
    obtain ⟨j, hj⟩ := List.mem_iff_getElem?.mp hy
    rw [List.getElem?_drop] at hj
    have := nd_inj hn hx hj
    have := h2 i hi
    omega
theorem Rep.pick (R : Rep Z h M) (n : Nat) (idx : List Nat) (h1 : idx.Nodup) (h2 : ∀ i ∈ idx, i < n) : Rep Z h (idx.filterMap (fun i => M[i]?) ++ M.drop n) := by
  refine ⟨R.1, fun i x hx => ?_, ?_⟩
  · have hm := List.mem_of_getElem? hx
    rcases List.mem_append.mp hm with q | q
    · obtain ⟨j, -, hj⟩ := List.mem_filterMap.mp q
      exact R.2.1 j x hj
    · obtain ⟨j, hj⟩ := List.mem_iff_getElem?.mp (List.mem_of_mem_drop q)
      exact R.2.1 j x hj
  · have := nd_pick R.2.2 n idx h1 h2
    rw [List.map_append, List.map_drop, List.map_filterMap]
    simpa [List.getElem?_map] using this
theorem Rep.fld {O nm d : String} (R : Rep Z h M) (k j : Nat) (hk : M[k]? = some (a, .inl (C, fs))) (hj : fs[j]? = some ((O, nm, d), v)) : Fld Z h a O nm d v := (R.2.1 k _ hk).2.2.1 j _ hj
theorem Rep.exa (R : Rep Z h M) (k : Nat) (hk : M[k]? = some (a, .inl (C, fs))) : Exa Z h a C := (R.2.1 k _ hk).2.1
end Facts
theorem wd {L : List Cond} {a0 : Array Value} {Z : State} {d : Cond} (hw : ∀ d ∈ L, d.before a0 Z = true) (i : Nat) (h : L[i]? = some d) : d.before a0 Z = true := hw d (List.mem_of_getElem? h)
/-! the walk -/
abbrev E0 := Program × Env × State × MethodId × Array Value × List Frame × Method × Code
def Cx (Z : State) (y : MethodName) (code : ByteArray) (maxL : Nat) (ret : Option FieldType) (E : E0) : Prop :=
  E.1.tables.exec = Jvm.exec ∧ Z.Warmed39 E.2.2.1.vm ∧ E.2.2.1.vm.findClass y.cls = some E.2.2.2.1.cls ∧ E.2.2.2.2.2.2.2.code = code ∧ E.2.2.2.2.2.2.2.maxLocals = maxL ∧ E.2.2.2.2.2.2.1.sig.returnType = ret ∧ E.2.2.2.2.2.2.1.locks = false ∧ E.2.2.2.2.2.2.1.name = y.name
abbrev PQ := Option Value → List Ent → Prop
def StE (l : Launch) (R : Room) (E : E0) (T : State) (locs : List Loc) (k n : Nat) : Prop :=
  Stand E.1 l E.2.1 R E.2.2.1 E.2.2.2.1 E.2.2.2.2.1 E.2.2.2.2.2.1 E.2.2.2.2.2.2.1 E.2.2.2.2.2.2.2 T locs k n
def Go (l : Launch) (Z : State) (R : Room) (E : E0) (Q : PQ) (M : List Ent) (k n pc : Nat) (Ls : Array Slot) (st : List Value) : Prop :=
  ∀ T locs, StE l R E T locs k n → Fr Z.heap.size locs → Rep Z T.heap M →
    ∃ s₂ v L, Steps E.1.tables E.2.1 E.2.2.2.2.2.1 (T.setTop (mkF E.2.2.2.1 pc Ls st)) s₂ ∧ s₂.status = .running ∧ Ended s₂ E.2.2.2.2.2.1 (.returned v) ∧ Fr Z.heap.size L ∧ (∃ M', Q v M' ∧ Rep Z s₂.heap M') ∧ FrameEnd E.2.2.1 (.returned v) s₂ L R.cells R.slots
def Met (l : Launch) (Z : State) (y : MethodName) (bytes : ByteArray) (maxL : Nat) (ret : Option FieldType) (rm : Room) (as : Array Value) (M : List Ent) (Q : PQ) : Prop :=
  ∀ (ws : List Cond) (h : Heap), Rep Z h M → MetFree l y (head1 (Cond.code y bytes maxL ret :: ws) rm) (fun a U => a = as ∧ Z.Warmed39 U.vm ∧ U.heap = h) (fun _ _ _ _ _ => True) (fun _ U o U' => ∃ v L, o = .returned v ∧ (Fr Z.heap.size L ∧ ∃ M', Q v M' ∧ Rep Z U'.heap M') ∧ FrameEnd U o U' L rm.cells rm.slots)
theorem Met.of_go {l : Launch} {Z : State} {y : MethodName} {bytes : ByteArray} {maxL : Nat} {ret : Option FieldType} {rm : Room} {as : Array Value} {M : List Ent} {Q : PQ} {Ls : Array Slot} (hp : plainFor y = true) (hef : ∀ m, entryFrame m as maxL = mkF m 0 Ls [])
    (H : ∀ E, Cx Z y bytes maxL ret E → Go l Z rm E Q M 0 0 0 Ls []) : Met l Z y bytes maxL ret rm as M Q := by
  intro ws h r
  refine MetFree.of_bodySF hp hisR ?_
  intro p e s m args below meth c s₁ Bd hml0 hP hK
  obtain ⟨rfl, hZ, hh⟩ := hP
  have X0 : Stand p l e rm s m args below meth c s₁ [] 0 0 := Stand.of_body Bd
  have e0 : s₁.heap = h := by rw [← hh, Bd.state]; rfl
  obtain ⟨s₂, v, L, h1, h2, h3, h4, h5, h6⟩ := H (p, e, s, m, args, below, meth, c) ⟨Bd.exec, hZ, findClass_of_methodNamed Bd.named, Bd.bytes, hml0, Bd.returns, Bd.notSynchronized, (name_of_methodNamed Bd.named Bd.method).1⟩ s₁ [] X0 (Fr.nil _) (by rw [e0]; exact r)
  exact ⟨s₂, .returned v, castTop (hef m) h1, h2, h3, v, L, rfl, ⟨h4, h5⟩, h6⟩
theorem Met.mono {l : Launch} {Z : State} {y : MethodName} {bytes : ByteArray} {maxL : Nat} {ret : Option FieldType} {rm : Room} {as : Array Value} {M : List Ent} {Q Q' : PQ} (H : Met l Z y bytes maxL ret rm as M Q) (hq : ∀ v M', Q v M' → Q' v M') : Met l Z y bytes maxL ret rm as M Q' := by
  intro ws h r p e ha hc hk s m args below hf happ hP hK
  obtain ⟨n, o, h1, h2, h3, v, L, h4, ⟨h5, M', h6, h7⟩, h8⟩ := H ws h r p e ha hc hk s m args below hf happ hP hK
  exact ⟨n, o, h1, h2, h3, v, L, h4, ⟨h5, M', hq _ _ h6, h7⟩, h8⟩
section Walk
variable {l : Launch} {Z : State} {R : Room} {E : E0} {Q : PQ} {M : List Ent} {k n pc q : Nat} {Ls Ls' : Array Slot} {st : List Value} {x : MethodName} {code : ByteArray} {maxL : Nat} {ret : Option FieldType} {a0 : Array Value}
theorem Go.plain {q : Nat} {Ls' : Array Slot} {st' : List Value} (hr : Go l Z R E Q M k n q Ls' st')
    (hs : ∀ T locs t, StE l R E T locs k n → Steps E.1.tables E.2.1 E.2.2.2.2.2.1 (T.setTop (mkF E.2.2.2.1 q Ls' st')) t → Steps E.1.tables E.2.1 E.2.2.2.2.2.1 (T.setTop (mkF E.2.2.2.1 pc Ls st)) t) : Go l Z R E Q M k n pc Ls st := by
  intro T locs X F r
  obtain ⟨s₂, v, L, h1, h2⟩ := hr T locs X F r
  exact ⟨s₂, v, L, hs _ _ _ X h1, h2⟩
theorem Go.rep {M' : List Ent} (h : ∀ h, Rep Z h M → Rep Z h M') (hr : Go l Z R E Q M' k n pc Ls st) : Go l Z R E Q M k n pc Ls st := fun T locs X F r => hr T locs X F (h _ r)
theorem Go.know {P : Prop} (h : ∀ h, Rep Z h M → P) (hr : P → Go l Z R E Q M k n pc Ls st) : Go l Z R E Q M k n pc Ls st := fun T locs X F r => hr (h _ r) T locs X F r
theorem Go.pick {M' : List Ent} (i : Nat) (idx : List Nat) (h1 : idx.Nodup) (h2 : ∀ j ∈ idx, j < i) (hM : idx.filterMap (fun i => M[i]?) ++ M.drop i = M') (hr : Go l Z R E Q M' k n pc Ls st) : Go l Z R E Q M k n pc Ls st :=
  Go.rep (fun _ r => hM ▸ r.pick i idx h1 h2) hr
theorem Rep.perm {h : Heap} {M' : List Ent} (r : Rep Z h M) (p : M.Perm M') : Rep Z h M' :=
  ⟨r.1, fun i x hx => by
    obtain ⟨j, hj⟩ := List.mem_iff_getElem?.mp (p.symm.subset (List.mem_of_getElem? hx))
    exact r.2.1 j x hj, (p.map _).nodup_iff.mp r.2.2⟩
theorem Go.perm {M' : List Ent} (p : M.Perm M') (hr : Go l Z R E Q M' k n pc Ls st) : Go l Z R E Q M k n pc Ls st := Go.rep (fun _ r => r.perm p) hr
theorem Go.joinI {q : Nat} {Ls' : Array Slot} {st' : List Value} (v : Int32) (hJ : Go l Z R E Q M k n q Ls' (.int v :: st')) (hr : (∀ c : Int32, c = v → Go l Z R E Q M k n q Ls' (.int c :: st')) → Go l Z R E Q M k n pc Ls st) : Go l Z R E Q M k n pc Ls st := hr fun c e => e ▸ hJ
theorem Go.castI {u w : Int32} (h : u = w) (hr : Go l Z R E Q M k n pc Ls (.int w :: st)) : Go l Z R E Q M k n pc Ls (.int u :: st) := h ▸ hr
theorem Go.castJ {u w : Int64} (h : u = w) (hr : Go l Z R E Q M k n pc Ls (.long w :: st)) : Go l Z R E Q M k n pc Ls (.long u :: st) := h ▸ hr
/-! plain steps -/
theorem Go.aloadN (C : Cx Z x code maxL ret E) {j : Fin 4} {v : Value} (hd : decode code pc = .ok (.aload_n j, 1)) (hq : pc + 1 = q) (hl : Ls[j.val]? = some (.val v)) (hv : v.isRef = true) (hr : Go l Z R E Q M k n q Ls (v :: st)) : Go l Z R E Q M k n pc Ls st :=
  Go.plain hr fun _ _ _ X s => XS.aloadN X.here C.1 rfl (hb C.2.2.2.1 hd) hl hv (hq ▸ s)
theorem Go.aload (C : Cx Z x code maxL ret E) {j : Nat} {v : Value} (hd : decode code pc = .ok (.aload j, 2)) (hq : pc + 2 = q) (hl : Ls[j]? = some (.val v)) (hv : v.isRef = true) (hr : Go l Z R E Q M k n q Ls (v :: st)) : Go l Z R E Q M k n pc Ls st :=
  Go.plain hr fun _ _ _ X s => XS.aload X.here C.1 rfl (hb C.2.2.2.1 hd) hl hv (hq ▸ s)
theorem Go.iloadN (C : Cx Z x code maxL ret E) {j : Fin 4} {v : Int32} (hd : decode code pc = .ok (.iload_n j, 1)) (hq : pc + 1 = q) (hl : Ls[j.val]? = some (.val (.int v))) (hr : Go l Z R E Q M k n q Ls (.int v :: st)) : Go l Z R E Q M k n pc Ls st :=
  Go.plain hr fun _ _ _ X s => XS.iloadN X.here C.1 rfl (hb C.2.2.2.1 hd) hl (hq ▸ s)
theorem Go.iload (C : Cx Z x code maxL ret E) {j : Nat} {v : Int32} (hd : decode code pc = .ok (.iload j, 2)) (hq : pc + 2 = q) (hl : Ls[j]? = some (.val (.int v))) (hr : Go l Z R E Q M k n q Ls (.int v :: st)) : Go l Z R E Q M k n pc Ls st :=
  Go.plain hr fun _ _ _ X s => XS.iload X.here C.1 rfl (hb C.2.2.2.1 hd) hl (hq ▸ s)
theorem Go.lloadN (C : Cx Z x code maxL ret E) {j : Fin 4} {v : Int64} (hd : decode code pc = .ok (.lload_n j, 1)) (hq : pc + 1 = q) (hl : Ls[j.val]? = some (.val (.long v))) (hr : Go l Z R E Q M k n q Ls (.long v :: st)) : Go l Z R E Q M k n pc Ls st :=
  Go.plain hr fun _ _ _ X s => XT.lloadN X.here C.1 rfl (hb C.2.2.2.1 hd) hl (hq ▸ s)
theorem Go.lload (C : Cx Z x code maxL ret E) {j : Nat} {v : Int64} (hd : decode code pc = .ok (.lload j, 2)) (hq : pc + 2 = q) (hl : Ls[j]? = some (.val (.long v))) (hr : Go l Z R E Q M k n q Ls (.long v :: st)) : Go l Z R E Q M k n pc Ls st :=
  Go.plain hr fun _ _ _ X s => XT.lload X.here C.1 rfl (hb C.2.2.2.1 hd) hl (hq ▸ s)
theorem Go.istoreN (C : Cx Z x code maxL ret E) {j : Fin 4} {v : Int32} (hd : decode code pc = .ok (.istore_n j, 1)) (hq : pc + 1 = q) (hl : storeLocals Ls j.val (.int v) = some Ls') (hr : Go l Z R E Q M k n q Ls' st) : Go l Z R E Q M k n pc Ls (.int v :: st) :=
  Go.plain hr fun _ _ _ X s => XS.istoreN X.here C.1 rfl (hb C.2.2.2.1 hd) rfl hl (hq ▸ s)
theorem Go.istore (C : Cx Z x code maxL ret E) {j : Nat} {v : Int32} (hd : decode code pc = .ok (.istore j, 2)) (hq : pc + 2 = q) (hl : storeLocals Ls j (.int v) = some Ls') (hr : Go l Z R E Q M k n q Ls' st) : Go l Z R E Q M k n pc Ls (.int v :: st) :=
  Go.plain hr fun _ _ _ X s => XS.istore X.here C.1 rfl (hb C.2.2.2.1 hd) rfl hl (hq ▸ s)
theorem Go.lstoreN (C : Cx Z x code maxL ret E) {j : Fin 4} {v : Int64} (hd : decode code pc = .ok (.lstore_n j, 1)) (hq : pc + 1 = q) (hl : storeLocals Ls j.val (.long v) = some Ls') (hr : Go l Z R E Q M k n q Ls' st) : Go l Z R E Q M k n pc Ls (.long v :: st) :=
  Go.plain hr fun _ _ _ X s => XT.lstoreN X.here C.1 rfl (hb C.2.2.2.1 hd) rfl hl (hq ▸ s)
theorem Go.lstore (C : Cx Z x code maxL ret E) {j : Nat} {v : Int64} (hd : decode code pc = .ok (.lstore j, 2)) (hq : pc + 2 = q) (hl : storeLocals Ls j (.long v) = some Ls') (hr : Go l Z R E Q M k n q Ls' st) : Go l Z R E Q M k n pc Ls (.long v :: st) :=
  Go.plain hr fun _ _ _ X s => XT.lstore X.here C.1 rfl (hb C.2.2.2.1 hd) rfl hl (hq ▸ s)
theorem Go.astoreN (C : Cx Z x code maxL ret E) {j : Fin 4} {v : Value} (hd : decode code pc = .ok (.astore_n j, 1)) (hq : pc + 1 = q) (hv : v.isRef = true) (hl : storeLocals Ls j.val v = some Ls') (hr : Go l Z R E Q M k n q Ls' st) : Go l Z R E Q M k n pc Ls (v :: st) :=
  Go.plain hr fun _ _ _ X s => XS.astoreN X.here C.1 rfl (hb C.2.2.2.1 hd) rfl hv hl (hq ▸ s)
theorem Go.astore (C : Cx Z x code maxL ret E) {j : Nat} {v : Value} (hd : decode code pc = .ok (.astore j, 2)) (hq : pc + 2 = q) (hv : v.isRef = true) (hl : storeLocals Ls j v = some Ls') (hr : Go l Z R E Q M k n q Ls' st) : Go l Z R E Q M k n pc Ls (v :: st) :=
  Go.plain hr fun _ _ _ X s => XS.astore X.here C.1 rfl (hb C.2.2.2.1 hd) rfl hv hl (hq ▸ s)
theorem Go.iconst (C : Cx Z x code maxL ret E) {i : Int} {v : Int32} (hd : decode code pc = .ok (.iconst i, 1)) (hq : pc + 1 = q) (hv : Int32.ofInt i = v) (hr : Go l Z R E Q M k n q Ls (.int v :: st)) : Go l Z R E Q M k n pc Ls st :=
  Go.plain hr fun _ _ _ X s => XS.iconst X.here C.1 rfl (hb C.2.2.2.1 hd) (hv ▸ hq ▸ s)
theorem Go.bipush (C : Cx Z x code maxL ret E) {i : Int} {v : Int32} (hd : decode code pc = .ok (.bipush i, 2)) (hq : pc + 2 = q) (hv : (Int8.ofInt i).toInt32 = v) (hr : Go l Z R E Q M k n q Ls (.int v :: st)) : Go l Z R E Q M k n pc Ls st :=
  Go.plain hr fun _ _ _ X s => XS.bipush X.here C.1 rfl (hb C.2.2.2.1 hd) (hv ▸ hq ▸ s)
theorem Go.sipush (C : Cx Z x code maxL ret E) {i : Int} {v : Int32} (hd : decode code pc = .ok (.sipush i, 3)) (hq : pc + 3 = q) (hv : (Int16.ofInt i).toInt32 = v) (hr : Go l Z R E Q M k n q Ls (.int v :: st)) : Go l Z R E Q M k n pc Ls st :=
  Go.plain hr fun _ _ _ X s => XS.sipush X.here C.1 rfl (hb C.2.2.2.1 hd) (hv ▸ hq ▸ s)
theorem Go.lconst (C : Cx Z x code maxL ret E) {i : Fin 2} {v : Int64} (hd : decode code pc = .ok (.lconst i, 1)) (hq : pc + 1 = q) (hv : Int64.ofNat i = v) (hr : Go l Z R E Q M k n q Ls (.long v :: st)) : Go l Z R E Q M k n pc Ls st :=
  Go.plain hr fun _ _ _ X s => XT.lconst X.here C.1 rfl (hb C.2.2.2.1 hd) (hv ▸ hq ▸ s)
theorem Go.aconstNull (C : Cx Z x code maxL ret E) (hd : decode code pc = .ok (.aconst_null, 1)) (hq : pc + 1 = q) (hr : Go l Z R E Q M k n q Ls (.null :: st)) : Go l Z R E Q M k n pc Ls st :=
  Go.plain hr fun _ _ _ X s => XS.aconstNull X.here C.1 rfl (hb C.2.2.2.1 hd) (hq ▸ s)
theorem Go.ldcWI (C : Cx Z x code maxL ret E) {i : Nat} {v : Int32} (w : (Cond.constant x.cls i v).before a0 Z = true) (hd : decode code pc = .ok (.ldc_w i, 3)) (hq : pc + 3 = q) (hr : Go l Z R E Q M k n q Ls (.int v :: st)) : Go l Z R E Q M k n pc Ls st :=
  Go.plain hr fun _ _ _ X s => Stand.ldcWI X C.1 C.2.2.1 (mv C.2.1 w) rfl (hb C.2.2.2.1 hd) (hq ▸ s)
theorem Go.ldc2J (C : Cx Z x code maxL ret E) {i : Nat} {v : Int64} (w : (Cond.constantLong x.cls i v).before a0 Z = true) (hd : decode code pc = .ok (.ldc2_w i, 3)) (hq : pc + 3 = q) (hr : Go l Z R E Q M k n q Ls (.long v :: st)) : Go l Z R E Q M k n pc Ls st :=
  Go.plain hr fun _ _ _ X s => Stand.ldc2J X C.1 C.2.2.1 (mv C.2.1 w) rfl (hb C.2.2.2.1 hd) (hq ▸ s)
theorem Go.dup (C : Cx Z x code maxL ret E) {v : Value} (hd : decode code pc = .ok (.dup, 1)) (hq : pc + 1 = q) (hc : v.category = 1) (hr : Go l Z R E Q M k n q Ls (v :: v :: st)) : Go l Z R E Q M k n pc Ls (v :: st) :=
  Go.plain hr fun _ _ _ X s => XS.dup X.here C.1 rfl (hb C.2.2.2.1 hd) rfl hc (hq ▸ s)
theorem Go.dup2 (C : Cx Z x code maxL ret E) {v w : Value} (hd : decode code pc = .ok (.dup2, 1)) (hq : pc + 1 = q) (hc : v.category = 1) (hc' : w.category = 1) (hr : Go l Z R E Q M k n q Ls (v :: w :: v :: w :: st)) : Go l Z R E Q M k n pc Ls (v :: w :: st) :=
  Go.plain hr fun _ _ _ X s => XT.dup2 X.here C.1 rfl (hb C.2.2.2.1 hd) rfl hc hc' (hq ▸ s)
theorem Go.pop (C : Cx Z x code maxL ret E) {v : Value} (hd : decode code pc = .ok (.pop, 1)) (hq : pc + 1 = q) (hc : v.category = 1) (hr : Go l Z R E Q M k n q Ls st) : Go l Z R E Q M k n pc Ls (v :: st) :=
  Go.plain hr fun _ _ _ X s => XT.pop X.here C.1 rfl (hb C.2.2.2.1 hd) rfl hc (hq ▸ s)
theorem Go.iadd (C : Cx Z x code maxL ret E) {u : Int32} {v : Int32} (hd : decode code pc = .ok (.iadd, 1)) (hq : pc + 1 = q) (hr : Go l Z R E Q M k n q Ls (.int (u + v) :: st)) : Go l Z R E Q M k n pc Ls (.int v :: .int u :: st) :=
  Go.plain hr fun _ _ _ X s => XS.iadd X.here C.1 rfl (hb C.2.2.2.1 hd) rfl (hq ▸ s)
theorem Go.isub (C : Cx Z x code maxL ret E) {u : Int32} {v : Int32} (hd : decode code pc = .ok (.isub, 1)) (hq : pc + 1 = q) (hr : Go l Z R E Q M k n q Ls (.int (u - v) :: st)) : Go l Z R E Q M k n pc Ls (.int v :: .int u :: st) :=
  Go.plain hr fun _ _ _ X s => XS.isub X.here C.1 rfl (hb C.2.2.2.1 hd) rfl (hq ▸ s)
theorem Go.imul (C : Cx Z x code maxL ret E) {u : Int32} {v : Int32} (hd : decode code pc = .ok (.imul, 1)) (hq : pc + 1 = q) (hr : Go l Z R E Q M k n q Ls (.int (u * v) :: st)) : Go l Z R E Q M k n pc Ls (.int v :: .int u :: st) :=
  Go.plain hr fun _ _ _ X s => XS.imul X.here C.1 rfl (hb C.2.2.2.1 hd) rfl (hq ▸ s)
theorem Go.iand (C : Cx Z x code maxL ret E) {u : Int32} {v : Int32} (hd : decode code pc = .ok (.iand, 1)) (hq : pc + 1 = q) (hr : Go l Z R E Q M k n q Ls (.int (u &&& v) :: st)) : Go l Z R E Q M k n pc Ls (.int v :: .int u :: st) :=
  Go.plain hr fun _ _ _ X s => XS.iand X.here C.1 rfl (hb C.2.2.2.1 hd) rfl (hq ▸ s)
theorem Go.ixor (C : Cx Z x code maxL ret E) {u : Int32} {v : Int32} (hd : decode code pc = .ok (.ixor, 1)) (hq : pc + 1 = q) (hr : Go l Z R E Q M k n q Ls (.int (u ^^^ v) :: st)) : Go l Z R E Q M k n pc Ls (.int v :: .int u :: st) :=
  Go.plain hr fun _ _ _ X s => XT.ixor X.here C.1 rfl (hb C.2.2.2.1 hd) rfl (hq ▸ s)
theorem Go.ishl (C : Cx Z x code maxL ret E) {u : Int32} {v : Int32} (hd : decode code pc = .ok (.ishl, 1)) (hq : pc + 1 = q) (hr : Go l Z R E Q M k n q Ls (.int (u <<< (v &&& 31)) :: st)) : Go l Z R E Q M k n pc Ls (.int v :: .int u :: st) :=
  Go.plain hr fun _ _ _ X s => XT.ishl X.here C.1 rfl (hb C.2.2.2.1 hd) rfl (hq ▸ s)
theorem Go.iushr (C : Cx Z x code maxL ret E) {u : Int32} {v : Int32} (hd : decode code pc = .ok (.iushr, 1)) (hq : pc + 1 = q) (hr : Go l Z R E Q M k n q Ls (.int (XT.ushr u v) :: st)) : Go l Z R E Q M k n pc Ls (.int v :: .int u :: st) :=
  Go.plain hr fun _ _ _ X s => XT.iushr X.here C.1 rfl (hb C.2.2.2.1 hd) rfl (hq ▸ s)
theorem Go.ladd (C : Cx Z x code maxL ret E) {u : Int64} {v : Int64} (hd : decode code pc = .ok (.ladd, 1)) (hq : pc + 1 = q) (hr : Go l Z R E Q M k n q Ls (.long (u + v) :: st)) : Go l Z R E Q M k n pc Ls (.long v :: .long u :: st) :=
  Go.plain hr fun _ _ _ X s => XT.ladd X.here C.1 rfl (hb C.2.2.2.1 hd) rfl (hq ▸ s)
theorem Go.lsub (C : Cx Z x code maxL ret E) {u : Int64} {v : Int64} (hd : decode code pc = .ok (.lsub, 1)) (hq : pc + 1 = q) (hr : Go l Z R E Q M k n q Ls (.long (u - v) :: st)) : Go l Z R E Q M k n pc Ls (.long v :: .long u :: st) :=
  Go.plain hr fun _ _ _ X s => XT.lsub X.here C.1 rfl (hb C.2.2.2.1 hd) rfl (hq ▸ s)
theorem Go.land (C : Cx Z x code maxL ret E) {u : Int64} {v : Int64} (hd : decode code pc = .ok (.land, 1)) (hq : pc + 1 = q) (hr : Go l Z R E Q M k n q Ls (.long (u &&& v) :: st)) : Go l Z R E Q M k n pc Ls (.long v :: .long u :: st) :=
  Go.plain hr fun _ _ _ X s => XT.land X.here C.1 rfl (hb C.2.2.2.1 hd) rfl (hq ▸ s)
theorem Go.lor (C : Cx Z x code maxL ret E) {u : Int64} {v : Int64} (hd : decode code pc = .ok (.lor, 1)) (hq : pc + 1 = q) (hr : Go l Z R E Q M k n q Ls (.long (u ||| v) :: st)) : Go l Z R E Q M k n pc Ls (.long v :: .long u :: st) :=
  Go.plain hr fun _ _ _ X s => XT.lor X.here C.1 rfl (hb C.2.2.2.1 hd) rfl (hq ▸ s)
theorem Go.lxor (C : Cx Z x code maxL ret E) {u : Int64} {v : Int64} (hd : decode code pc = .ok (.lxor, 1)) (hq : pc + 1 = q) (hr : Go l Z R E Q M k n q Ls (.long (u ^^^ v) :: st)) : Go l Z R E Q M k n pc Ls (.long v :: .long u :: st) :=
  Go.plain hr fun _ _ _ X s => XT.lxor X.here C.1 rfl (hb C.2.2.2.1 hd) rfl (hq ▸ s)
theorem Go.lshl (C : Cx Z x code maxL ret E) {u : Int64} {v : Int32} (hd : decode code pc = .ok (.lshl, 1)) (hq : pc + 1 = q) (hr : Go l Z R E Q M k n q Ls (.long (u <<< (v.toInt64 &&& 63)) :: st)) : Go l Z R E Q M k n pc Ls (.int v :: .long u :: st) :=
  Go.plain hr fun _ _ _ X s => XT.lshl X.here C.1 rfl (hb C.2.2.2.1 hd) rfl (hq ▸ s)
theorem Go.lushr (C : Cx Z x code maxL ret E) {u : Int64} {v : Int32} (hd : decode code pc = .ok (.lushr, 1)) (hq : pc + 1 = q) (hr : Go l Z R E Q M k n q Ls (.long (XT.ushrL u v) :: st)) : Go l Z R E Q M k n pc Ls (.int v :: .long u :: st) :=
  Go.plain hr fun _ _ _ X s => XT.lushr X.here C.1 rfl (hb C.2.2.2.1 hd) rfl (hq ▸ s)
theorem Go.i2l (C : Cx Z x code maxL ret E) {u : Int32} (hd : decode code pc = .ok (.i2l, 1)) (hq : pc + 1 = q) (hr : Go l Z R E Q M k n q Ls (.long u.toInt64 :: st)) : Go l Z R E Q M k n pc Ls (.int u :: st) :=
  Go.plain hr fun _ _ _ X s => XT.i2l X.here C.1 rfl (hb C.2.2.2.1 hd) rfl (hq ▸ s)
theorem Go.l2i (C : Cx Z x code maxL ret E) {u : Int64} (hd : decode code pc = .ok (.l2i, 1)) (hq : pc + 1 = q) (hr : Go l Z R E Q M k n q Ls (.int u.toInt32 :: st)) : Go l Z R E Q M k n pc Ls (.long u :: st) :=
  Go.plain hr fun _ _ _ X s => XT.l2i X.here C.1 rfl (hb C.2.2.2.1 hd) rfl (hq ▸ s)
theorem Go.lrem (C : Cx Z x code maxL ret E) {u v : Int64} (hd : decode code pc = .ok (.lrem, 1)) (hq : pc + 1 = q) (hv : v ≠ 0) (hr : Go l Z R E Q M k n q Ls (.long (u - u / v * v) :: st)) : Go l Z R E Q M k n pc Ls (.long v :: .long u :: st) :=
  Go.plain hr fun _ _ _ X s => XT.lrem X.here C.1 rfl (hb C.2.2.2.1 hd) rfl hv (hq ▸ s)
theorem Go.idiv (C : Cx Z x code maxL ret E) {u v : Int32} (hd : decode code pc = .ok (.idiv, 1)) (hq : pc + 1 = q) (hv : v ≠ 0) (hr : Go l Z R E Q M k n q Ls (.int (u / v) :: st)) : Go l Z R E Q M k n pc Ls (.int v :: .int u :: st) :=
  Go.plain hr fun _ _ _ X s => XS.idiv X.here C.1 rfl (hb C.2.2.2.1 hd) rfl hv (hq ▸ s)
theorem Go.iinc (C : Cx Z x code maxL ret E) {j : Nat} {i : Int} {u v : Int32} (hd : decode code pc = .ok (.iinc j i, 3)) (hq : pc + 3 = q) (hl : Ls[j]? = some (.val (.int u))) (hv : u + Int32.ofInt i = v) (hl' : storeLocals Ls j (.int v) = some Ls') (hr : Go l Z R E Q M k n q Ls' st) : Go l Z R E Q M k n pc Ls st :=
  Go.plain hr fun _ _ _ X s => XS.iinc X.here C.1 rfl (hb C.2.2.2.1 hd) hl (hv ▸ hl') (hq ▸ s)
theorem Go.goto (C : Cx Z x code maxL ret E) {o : Int} (hd : decode code pc = .ok (.goto o, 3)) (ho : 0 ≤ (pc : Int) + o) (hq : ((pc : Int) + o).toNat = q) (hr : Go l Z R E Q M k n q Ls st) : Go l Z R E Q M k n pc Ls st :=
  Go.plain hr fun _ _ _ X s => XS.goto X.here C.1 rfl rfl (hb C.2.2.2.1 hd) ho hq s
theorem Go.ifYes (C : Cx Z x code maxL ret E) {cd : ClassFile.Cond} {o : Int} {u : Int32} (hd : decode code pc = .ok (.ifCond cd o, 3)) (ho : 0 ≤ (pc : Int) + o) (hq : ((pc : Int) + o).toNat = q) (hc : ifCond.holds cd u = true) (hr : Go l Z R E Q M k n q Ls st) : Go l Z R E Q M k n pc Ls (.int u :: st) :=
  Go.plain hr fun _ _ _ X s => XS.ifYes X.here C.1 rfl rfl (hb C.2.2.2.1 hd) rfl hc ho hq s
theorem Go.ifNo (C : Cx Z x code maxL ret E) {cd : ClassFile.Cond} {o : Int} {u : Int32} (hd : decode code pc = .ok (.ifCond cd o, 3)) (hq : pc + 3 = q) (hc : ifCond.holds cd u = false) (hr : Go l Z R E Q M k n q Ls st) : Go l Z R E Q M k n pc Ls (.int u :: st) :=
  Go.plain hr fun _ _ _ X s => XS.ifNo X.here C.1 rfl (hb C.2.2.2.1 hd) rfl hc (hq ▸ s)
theorem Go.icmpYes (C : Cx Z x code maxL ret E) {cd : ClassFile.Cond} {o : Int} {u v : Int32} (hd : decode code pc = .ok (.if_icmp cd o, 3)) (ho : 0 ≤ (pc : Int) + o) (hq : ((pc : Int) + o).toNat = q) (hc : if_icmp.holds cd u v = true) (hr : Go l Z R E Q M k n q Ls st) : Go l Z R E Q M k n pc Ls (.int v :: .int u :: st) :=
  Go.plain hr fun _ _ _ X s => XS.icmpYes X.here C.1 rfl rfl (hb C.2.2.2.1 hd) rfl hc ho hq s
theorem Go.icmpNo (C : Cx Z x code maxL ret E) {cd : ClassFile.Cond} {o : Int} {u v : Int32} (hd : decode code pc = .ok (.if_icmp cd o, 3)) (hq : pc + 3 = q) (hc : if_icmp.holds cd u v = false) (hr : Go l Z R E Q M k n q Ls st) : Go l Z R E Q M k n pc Ls (.int v :: .int u :: st) :=
  Go.plain hr fun _ _ _ X s => XS.icmpNo X.here C.1 rfl (hb C.2.2.2.1 hd) rfl hc (hq ▸ s)
theorem Go.acmpYes (C : Cx Z x code maxL ret E) {cd : ClassFile.ACond} {o : Int} {u v : Value} (hd : decode code pc = .ok (.if_acmp cd o, 3)) (ho : 0 ≤ (pc : Int) + o) (hq : ((pc : Int) + o).toNat = q) (hu : u.isRef = true) (hv : v.isRef = true) (hc : XT.acmp cd u v = true) (hr : Go l Z R E Q M k n q Ls st) : Go l Z R E Q M k n pc Ls (v :: u :: st) :=
  Go.plain hr fun _ _ _ X s => XT.acmpYes X.here C.1 rfl rfl (hb C.2.2.2.1 hd) rfl hu hv hc ho hq s
theorem Go.acmpNo (C : Cx Z x code maxL ret E) {cd : ClassFile.ACond} {o : Int} {u v : Value} (hd : decode code pc = .ok (.if_acmp cd o, 3)) (hq : pc + 3 = q) (hu : u.isRef = true) (hv : v.isRef = true) (hc : XT.acmp cd u v = false) (hr : Go l Z R E Q M k n q Ls st) : Go l Z R E Q M k n pc Ls (v :: u :: st) :=
  Go.plain hr fun _ _ _ X s => XT.acmpNo X.here C.1 rfl (hb C.2.2.2.1 hd) rfl hu hv hc (hq ▸ s)
theorem Go.nullYes (C : Cx Z x code maxL ret E) {o : Int} {v : Value} (hd : decode code pc = .ok (.ifnull o, 3)) (ho : 0 ≤ (pc : Int) + o) (hq : ((pc : Int) + o).toNat = q) (hv : v = .null) (hr : Go l Z R E Q M k n q Ls st) : Go l Z R E Q M k n pc Ls (v :: st) :=
  Go.plain hr fun _ _ _ X s => XT.nullYes X.here C.1 rfl rfl (hb C.2.2.2.1 hd) rfl hv ho hq s
theorem Go.nullNo (C : Cx Z x code maxL ret E) {o : Int} {v : Value} (hd : decode code pc = .ok (.ifnull o, 3)) (hq : pc + 3 = q) (hu : v.isRef = true) (hv : ¬ v = .null) (hr : Go l Z R E Q M k n q Ls st) : Go l Z R E Q M k n pc Ls (v :: st) :=
  Go.plain hr fun _ _ _ X s => XT.nullNo X.here C.1 rfl (hb C.2.2.2.1 hd) rfl hu hv (hq ▸ s)
theorem Go.nonnullYes (C : Cx Z x code maxL ret E) {o : Int} {v : Value} (hd : decode code pc = .ok (.ifnonnull o, 3)) (ho : 0 ≤ (pc : Int) + o) (hq : ((pc : Int) + o).toNat = q) (hu : v.isRef = true) (hv : ¬ v = .null) (hr : Go l Z R E Q M k n q Ls st) : Go l Z R E Q M k n pc Ls (v :: st) :=
  Go.plain hr fun _ _ _ X s => XT.nonnullYes X.here C.1 rfl rfl (hb C.2.2.2.1 hd) rfl hu hv ho hq s
theorem Go.nonnullNo (C : Cx Z x code maxL ret E) {o : Int} {v : Value} (hd : decode code pc = .ok (.ifnonnull o, 3)) (hq : pc + 3 = q) (hv : v = .null) (hr : Go l Z R E Q M k n q Ls st) : Go l Z R E Q M k n pc Ls (v :: st) :=
  Go.plain hr fun _ _ _ X s => XT.nonnullNo X.here C.1 rfl (hb C.2.2.2.1 hd) rfl hv (hq ▸ s)
def icP : ClassFile.Cond → Int32 → Prop
  | .eq, u => u = 0 | .ne, u => ¬ u = 0 | .lt, u => u < 0 | .ge, u => ¬ u < 0 | .gt, u => 0 < u | .le, u => ¬ 0 < u
def icN : ClassFile.Cond → Int32 → Prop
  | .eq, u => ¬ u = 0 | .ne, u => u = 0 | .lt, u => ¬ u < 0 | .ge, u => u < 0 | .gt, u => ¬ 0 < u | .le, u => 0 < u
def iiP : ClassFile.Cond → Int32 → Int32 → Prop
  | .eq, u, v => u = v | .ne, u, v => ¬ u = v | .lt, u, v => u < v | .ge, u, v => ¬ u < v | .gt, u, v => v < u | .le, u, v => ¬ v < u
def iiN : ClassFile.Cond → Int32 → Int32 → Prop
  | .eq, u, v => ¬ u = v | .ne, u, v => u = v | .lt, u, v => ¬ u < v | .ge, u, v => u < v | .gt, u, v => ¬ v < u | .le, u, v => v < u
def llP : ClassFile.Cond → Int64 → Int64 → Prop
  | .eq, u, v => u = v | .ne, u, v => ¬ u = v | .lt, u, v => u < v | .ge, u, v => ¬ u < v | .gt, u, v => v < u | .le, u, v => ¬ v < u
def llN : ClassFile.Cond → Int64 → Int64 → Prop
  | .eq, u, v => ¬ u = v | .ne, u, v => u = v | .lt, u, v => ¬ u < v | .ge, u, v => u < v | .gt, u, v => ¬ v < u | .le, u, v => v < u
theorem ic_or (cd : ClassFile.Cond) (u : Int32) : (ifCond.holds cd u = true ∧ icP cd u) ∨ (ifCond.holds cd u = false ∧ icN cd u) := by
  cases cd
  · by_cases h : u = 0
    · exact Or.inl ⟨XT.i0_eq_t h, h⟩
    · exact Or.inr ⟨XT.i0_eq_f h, h⟩
  · by_cases h : u = 0
    · exact Or.inr ⟨XT.i0_ne_f h, h⟩
    · exact Or.inl ⟨XT.i0_ne_t h, h⟩
  · by_cases h : u < 0
    · exact Or.inl ⟨XT.i0_lt_t h, h⟩
    · exact Or.inr ⟨XT.i0_lt_f h, h⟩
  · by_cases h : u < 0
    · exact Or.inr ⟨XT.i0_ge_f h, h⟩
    · exact Or.inl ⟨XT.i0_ge_t h, h⟩
  · by_cases h : 0 < u
    · exact Or.inl ⟨XT.i0_gt_t h, h⟩
    · exact Or.inr ⟨XT.i0_gt_f h, h⟩
  · by_cases h : 0 < u
    · exact Or.inr ⟨XT.i0_le_f h, h⟩
    · exact Or.inl ⟨XT.i0_le_t h, h⟩
theorem ii_or (cd : ClassFile.Cond) (u v : Int32) : (if_icmp.holds cd u v = true ∧ iiP cd u v) ∨ (if_icmp.holds cd u v = false ∧ iiN cd u v) := by
  cases cd
  · by_cases h : u = v
    · exact Or.inl ⟨XT.ii_eq_t h, h⟩
    · exact Or.inr ⟨XT.ii_eq_f h, h⟩
  · by_cases h : u = v
    · exact Or.inr ⟨XT.ii_ne_f h, h⟩
    · exact Or.inl ⟨XT.ii_ne_t h, h⟩
  · by_cases h : u < v
    · exact Or.inl ⟨XT.ii_lt_t h, h⟩
    · exact Or.inr ⟨XT.ii_lt_f h, h⟩
  · by_cases h : u < v
    · exact Or.inr ⟨XT.ii_ge_f h, h⟩
    · exact Or.inl ⟨XT.ii_ge_t h, h⟩
  · by_cases h : v < u
    · exact Or.inl ⟨XT.ii_gt_t h, h⟩
    · exact Or.inr ⟨XT.ii_gt_f h, h⟩
  · by_cases h : v < u
    · exact Or.inr ⟨XT.ii_le_f h, h⟩
    · exact Or.inl ⟨XT.ii_le_t h, h⟩
theorem ll_or (cd : ClassFile.Cond) (u v : Int64) : (ifCond.holds cd (XT.cmpL u v) = true ∧ llP cd u v) ∨ (ifCond.holds cd (XT.cmpL u v) = false ∧ llN cd u v) := by
  cases cd
  · by_cases h : u = v
    · exact Or.inl ⟨XT.ll_eq_t h, h⟩
    · exact Or.inr ⟨XT.ll_eq_f h, h⟩
  · by_cases h : u = v
    · exact Or.inr ⟨XT.ll_ne_f h, h⟩
    · exact Or.inl ⟨XT.ll_ne_t h, h⟩
  · by_cases h : u < v
    · exact Or.inl ⟨XT.ll_lt_t h, h⟩
    · exact Or.inr ⟨XT.ll_lt_f h, h⟩
  · by_cases h : u < v
    · exact Or.inr ⟨XT.ll_ge_f h, h⟩
    · exact Or.inl ⟨XT.ll_ge_t h, h⟩
  · by_cases h : v < u
    · exact Or.inl ⟨XT.ll_gt_t h, h⟩
    · exact Or.inr ⟨XT.ll_gt_f h, h⟩
  · by_cases h : v < u
    · exact Or.inr ⟨XT.ll_le_f h, h⟩
    · exact Or.inl ⟨XT.ll_le_t h, h⟩
theorem Go.ifc (C : Cx Z x code maxL ret E) {cd : ClassFile.Cond} {o : Int} {u : Int32} {q' : Nat} (hd : decode code pc = .ok (.ifCond cd o, 3)) (ho : 0 ≤ (pc : Int) + o) (hq : ((pc : Int) + o).toNat = q) (hq' : pc + 3 = q')
    (h1 : icP cd u → Go l Z R E Q M k n q Ls st) (h2 : icN cd u → Go l Z R E Q M k n q' Ls st) : Go l Z R E Q M k n pc Ls (.int u :: st) := by
  rcases ic_or cd u with ⟨a, b⟩ | ⟨a, b⟩
  · exact Go.ifYes C hd ho hq a (h1 b)
  · exact Go.ifNo C hd hq' a (h2 b)
theorem Go.icmp (C : Cx Z x code maxL ret E) {cd : ClassFile.Cond} {o : Int} {u v : Int32} {q' : Nat} (hd : decode code pc = .ok (.if_icmp cd o, 3)) (ho : 0 ≤ (pc : Int) + o) (hq : ((pc : Int) + o).toNat = q) (hq' : pc + 3 = q')
    (h1 : iiP cd u v → Go l Z R E Q M k n q Ls st) (h2 : iiN cd u v → Go l Z R E Q M k n q' Ls st) : Go l Z R E Q M k n pc Ls (.int v :: .int u :: st) := by
  rcases ii_or cd u v with ⟨a, b⟩ | ⟨a, b⟩
  · exact Go.icmpYes C hd ho hq a (h1 b)
  · exact Go.icmpNo C hd hq' a (h2 b)
theorem Go.lcmp (C : Cx Z x code maxL ret E) {u v : Int64} (hd : decode code pc = .ok (.lcmp, 1)) (hq : pc + 1 = q) (hr : Go l Z R E Q M k n q Ls (.int (XT.cmpL u v) :: st)) : Go l Z R E Q M k n pc Ls (.long v :: .long u :: st) :=
  Go.plain hr fun _ _ _ X s => XT.lcmp X.here C.1 rfl (hb C.2.2.2.1 hd) rfl (hq ▸ s)
theorem Go.lcmpif (C : Cx Z x code maxL ret E) {cd : ClassFile.Cond} {o : Int} {u v : Int64} {p' q' : Nat} (hd : decode code pc = .ok (.lcmp, 1)) (hp : pc + 1 = p') (hd' : decode code p' = .ok (.ifCond cd o, 3)) (ho : 0 ≤ (p' : Int) + o) (hq : ((p' : Int) + o).toNat = q) (hq' : p' + 3 = q')
    (h1 : llP cd u v → Go l Z R E Q M k n q Ls st) (h2 : llN cd u v → Go l Z R E Q M k n q' Ls st) : Go l Z R E Q M k n pc Ls (.long v :: .long u :: st) := by
  refine Go.lcmp C hd hp ?_
  rcases ll_or cd u v with ⟨a, b⟩ | ⟨a, b⟩
  · exact Go.ifYes C hd' ho hq a (h1 b)
  · exact Go.ifNo C hd' hq' a (h2 b)
def acP : ClassFile.ACond → Value → Value → Prop
  | .eq, u, v => u = v | .ne, u, v => ¬ u = v
def acN : ClassFile.ACond → Value → Value → Prop
  | .eq, u, v => ¬ u = v | .ne, u, v => u = v
theorem ac_or (cd : ClassFile.ACond) (u v : Value) : (XT.acmp cd u v = true ∧ acP cd u v) ∨ (XT.acmp cd u v = false ∧ acN cd u v) := by
  cases cd
  · by_cases h : u = v
    · exact Or.inl ⟨XT.aa_eq_t h, h⟩
    · exact Or.inr ⟨XT.aa_eq_f h, h⟩
  · by_cases h : u = v
    · exact Or.inr ⟨XT.aa_ne_f h, h⟩
    · exact Or.inl ⟨XT.aa_ne_t h, h⟩
/-! the heap -/
theorem Go.getF (C : Cx Z x code maxL ret E) {idx : Nat} {R0 O nm d host : String} {a : Addr} {v : Value} (w : (Cond.fieldLink x.cls idx R0 nm d).before a0 Z = true ∨ (Cond.fieldLinkNest x.cls idx R0 nm d host).before a0 Z = true) (via : Via Z R0 O nm d) (H : ∀ h, Rep Z h M → Fld Z h a O nm d v) (hd : decode code pc = .ok (.getfield idx, 3)) (hq : pc + 3 = q) (hr : Go l Z R E Q M k n q Ls (v :: st)) : Go l Z R E Q M k n pc Ls (.ref a :: st) := by
  intro T locs X F r
  obtain ⟨T', X', e', s'⟩ := RoadKit.getF X C.1 C.2.1 C.2.2.1 w via rfl (H _ r) (g := mkF E.2.2.2.1 pc Ls (.ref a :: st)) rfl rfl (hb C.2.2.2.1 hd)
  obtain ⟨s₂, v, L, h1, h2⟩ := hr T' locs X' F (by rw [e']; exact r)
  exact ⟨s₂, v, L, s' _ (hq ▸ h1), h2⟩
theorem Go.gf (C : Cx Z x code maxL ret E) {idx : Nat} {O nm d : String} {a : Addr} {v : Value} (w : (Cond.fieldLink x.cls idx O nm d).before a0 Z = true) (i j : Nat) {K : String} {fs : Fs} (hi : M[i]? = some (a, .inl (K, fs))) (hj : fs[j]? = some ((O, nm, d), v)) (hd : decode code pc = .ok (.getfield idx, 3)) (hq : pc + 3 = q) (hr : Go l Z R E Q M k n q Ls (v :: st)) : Go l Z R E Q M k n pc Ls (.ref a :: st) :=
  Go.getF C (host := "") (Or.inl w) Via.refl (fun _ r => r.fld i j hi hj) hd hq hr
theorem Go.putF (C : Cx Z x code maxL ret E) {idx kk i j : Nat} {R0 O nm d host K : String} {a : Addr} {v old : Value} {fs : Fs} {ty : FieldType} {M' : List Ent} (w : (Cond.fieldLink x.cls idx R0 nm d).before a0 Z = true ∨ (Cond.fieldLinkNest x.cls idx R0 nm d host).before a0 Z = true) (via : Via Z R0 O nm d)
    (hi : M[i]? = some (a, .inl (K, fs))) (hj : fs[j]? = some ((O, nm, d), old)) (L : (Cond.lays K O nm d).before a0 Z = true ∨ ((Cond.laysFinal K O nm d).before a0 Z = true ∧ x.cls = O ∧ x.name = "<init>")) (wi : (Cond.instantiable K kk).before a0 Z = true)
    (hty : parseFieldDescriptor d = some ty) (hn : narrow ty v = v) (hf : fits ty v = true) (hd : decode code pc = .ok (.putfield idx, 3)) (hq : pc + 3 = q) (hM : M.set i (a, .inl (K, fs.set j ((O, nm, d), v))) = M') (hr : Go l Z R E Q M' k n q Ls st) : Go l Z R E Q M k n pc Ls (v :: .ref a :: st) := by
  intro T locs X F r
  have Fl := r.fld i j hi hj
  obtain ⟨T', h', X', e', W, s'⟩ := RoadKit.putF X C.1 C.2.1 C.2.2.1 w via rfl Fl (r.exa i hi) (L.imp id fun q => ⟨q.1, q.2.1, C.2.2.2.2.2.2.2.trans q.2.2⟩) wi hty hn hf (g := mkF E.2.2.2.1 pc Ls (v :: .ref a :: st)) rfl rfl (hb C.2.2.2.1 hd)
  obtain ⟨s₂, v, L, h1, h2⟩ := hr T' _ X' (Fr.snoc X' F (r.fresh hi)) (by rw [e', ← hM]; exact r.wrote hi W ((r.2.1 i _ hi).2.put hj W))
  exact ⟨s₂, v, L, s' _ (hq ▸ h1), h2⟩
def LaidAll (Z : State) (a0 : Array Value) (K : String) : Fs → Prop
  | [] => True
  | f :: r => (Laid Z a0 K f.1.1 f.1.2.1 f.1.2.2 ∧ ∃ ty, parseFieldDescriptor f.1.2.2 = some ty ∧ f.2 = defaultValue ty) ∧ LaidAll Z a0 K r
theorem Go.pf (C : Cx Z x code maxL ret E) {idx kk : Nat} {R0 O nm d K : String} {a : Addr} {v old : Value} {fs : Fs} {ty : FieldType} {M' : List Ent} (w : (Cond.fieldLink x.cls idx R0 nm d).before a0 Z = true) (via : Via Z R0 O nm d) (i j : Nat) (hi : M[i]? = some (a, .inl (K, fs))) (hj : fs[j]? = some ((O, nm, d), old)) (L : (Cond.lays K O nm d).before a0 Z = true) (wi : (Cond.instantiable K kk).before a0 Z = true)
    (hty : parseFieldDescriptor d = some ty) (hn : narrow ty v = v) (hf : fits ty v = true) (hd : decode code pc = .ok (.putfield idx, 3)) (hq : pc + 3 = q) (hM : M.set i (a, .inl (K, fs.set j ((O, nm, d), v))) = M') (hr : Go l Z R E Q M' k n q Ls st) : Go l Z R E Q M k n pc Ls (v :: .ref a :: st) :=
  Go.putF C (host := "") (Or.inl w) via hi hj (Or.inl L) wi hty hn hf hd hq hM hr
theorem LaidAll.at {K : String} : ∀ {fs : Fs}, LaidAll Z a0 K fs → ∀ f ∈ fs, Laid Z a0 K f.1.1 f.1.2.1 f.1.2.2 ∧ ∃ ty, parseFieldDescriptor f.1.2.2 = some ty ∧ f.2 = defaultValue ty
  | _ :: _, H, f, hf => by
    rcases List.mem_cons.mp hf with rfl | q
    · exact H.1
    · exact H.2.at f q
theorem LaidAll.nodup {K : String} : ∀ {fs : Fs}, LaidAll Z a0 K fs → (fs.map fun f => f.1.2.1).Nodup → (fs.map fun f => slK Z f.1).Nodup
  | [], _, _ => List.nodup_nil
  | f :: r, H, hn => by
    rw [List.map_cons, List.nodup_cons] at hn ⊢
    refine ⟨fun m => ?_, H.2.nodup hn.2⟩
    obtain ⟨g, hg, e⟩ := List.mem_map.mp m
    obtain ⟨Lg, tg, pg, -⟩ := H.2.at g hg
    obtain ⟨Lf, tf, pf, -⟩ := H.1
    refine slot_ne Lg Lf (fun q => hn.1 ?_) pg pf e
    exact List.mem_map.mpr ⟨g, hg, q⟩
theorem Go.new (C : Cx Z x code maxL ret E) {idx n1 k' n' : Nat} {K : String} (w1 : (Cond.classLink x.cls idx K).before a0 Z = true) (w2 : (Cond.instantiable K n1).before a0 Z = true) (w3 : (Cond.initialized K).before a0 Z = true) (fs : Fs) (Lf : LaidAll Z a0 K fs) (hnd : (fs.map fun f => f.1.2.1).Nodup)
    (hd : decode code pc = .ok (.new idx, 3)) (hq : pc + 3 = q) (hc : k + 1 ≤ R.cells) (hs : n + n1 ≤ R.slots) (hk : k + 1 = k') (hn : n + n1 = n') (hr : ∀ a, Go l Z R E Q ((a, .inl (K, fs)) :: M) k' n' q Ls (.ref a :: st)) : Go l Z R E Q M k n pc Ls st := by
  intro T locs X F r
  obtain ⟨T', h', X', e', Ex, A, D, -, s'⟩ := newO X C.1 C.2.1 C.2.2.1 w1 w2 w3 rfl (g := mkF E.2.2.2.1 pc Ls st) rfl (hb C.2.2.2.1 hd) hc hs
  subst hk hn
  obtain ⟨s₂, v, L, h1, h2⟩ := hr _ T' _ X' F (by
    rw [e']
    refine r.new Ex rfl ⟨A, fun i f hf => ?_, Lf.nodup hnd⟩
    obtain ⟨La, ty, hp, hv⟩ := Lf.at f (List.mem_of_getElem? hf)
    rw [hv]
    exact D La hp)
  exact ⟨s₂, v, L, s' _ (hq ▸ h1), h2⟩
theorem Go.initO (C : Cx Z x code maxL ret E) {idx : Nat} {a : Addr} (w1 : (Cond.methodLink x.cls idx Lib.objectInit).before a0 Z = true) (w2 : (Cond.instanceMethod Lib.objectInit).before a0 Z = true) (w3 : (Cond.code Lib.objectInit ⟨#[0xb1]⟩ 1 none).before a0 Z = true) (hd : decode code pc = .ok (.invokespecial idx, 3)) (hq : pc + 3 = q) (hsz : Ls.size = maxL) (hf : 1 ≤ R.frames) {W : Nat} (hW : (st.map fun v => v.category).sum = W) (hl : W + 12 ≤ R.locals)
    (hr : Go l Z R E Q M k n q Ls st) : Go l Z R E Q M k n pc Ls (.ref a :: st) := by
  subst hW
  intro T locs X F r
  obtain ⟨T', X', e', s'⟩ := RoadKit.initO X C.1 C.2.1 C.2.2.1 w1 w2 w3 rfl (g := mkF E.2.2.2.1 pc Ls (.ref a :: st)) rfl (hsz.trans C.2.2.2.2.1.symm) rfl (hb C.2.2.2.1 hd) hf (W := (st.map fun v => v.category).sum) (by show 2 * 0 + _ ≤ _; omega) hl
  obtain ⟨s₂, v, L, h1, h2⟩ := hr T' locs X' F (by rw [e']; exact r)
  exact ⟨s₂, v, L, s' _ (hq ▸ h1), h2⟩
/-- an array that is owned, or that stood at the start -/
def ArrIs (Z : State) (h : Heap) (a : Addr) (ty : FieldType) (vs : List Value) : Prop := ∃ c : Cell, Arr Z h a c ty ∧ c.slots.toList = vs
theorem Rep.arr {h : Heap} {a : Addr} {ty : FieldType} {vs : List Value} {b : Bool} (r : Rep Z h M) (i : Nat) (hi : M[i]? = some (a, .inr (ty, vs, b))) : ArrIs Z h a ty vs := by
  obtain ⟨c, A, e, -⟩ := (r.2.1 i _ hi).2
  exact ⟨c, A, e⟩
theorem ArrIs.ext {h h' : Heap} {a : Addr} {ty : FieldType} {vs : List Value} (A : ArrIs Z h a ty vs) (E : Ext h h') : ArrIs Z h' a ty vs := by
  obtain ⟨c, A, e⟩ := A
  exact ⟨c, A.ext E, e⟩
theorem in_of {c : Cell} {vs : List Value} {j : Int32} {v : Value} (e : c.slots.toList = vs) (h0 : ¬ j < 0) (hv : vs[j.toNatClampNeg]? = some v) : ¬ (j < 0 ∨ c.slots.size ≤ j.toNatClampNeg) ∧ c.slots[j.toNatClampNeg]? = some v := by
  subst e
  rw [Array.getElem?_toList] at hv
  have := (Array.getElem?_eq_some_iff.mp hv).1
  exact ⟨fun q => q.elim h0 fun q => by omega, hv⟩
theorem Go.arraylength (C : Cx Z x code maxL ret E) {a : Addr} {ty : FieldType} {vs : List Value} {z : Int32} (H : ∀ h, Rep Z h M → ArrIs Z h a ty vs) (hz : vs.length.toInt32 = z) (hd : decode code pc = .ok (.arraylength, 1)) (hq : pc + 1 = q) (hr : Go l Z R E Q M k n q Ls (.int z :: st)) : Go l Z R E Q M k n pc Ls (.ref a :: st) := by
  intro T locs X F r
  obtain ⟨c, A, e⟩ := H _ r
  obtain ⟨s₂, v, L, h1, h2⟩ := hr T locs X F r
  refine ⟨s₂, v, L, Stand.arraylength X C.1 A.1 (State.isArrayOf_alike C.2.1.alike A.2.1) (g := mkF E.2.2.2.1 pc Ls (.ref a :: st)) rfl rfl (hb C.2.2.2.1 hd) _ ?_, h2⟩
  have : c.slots.size.toInt32 = z := by rw [← hz, ← e, Array.length_toList]
  rw [this]
  exact hq ▸ h1
theorem Go.iaload (C : Cx Z x code maxL ret E) {a : Addr} {vs : List Value} {j : Int32} {v : Value} (H : ∀ h, Rep Z h M → ArrIs Z h a .int vs) (h0 : ¬ j < 0) (hv : vs[j.toNatClampNeg]? = some v) (hd : decode code pc = .ok (.iaload, 1)) (hq : pc + 1 = q) (hr : Go l Z R E Q M k n q Ls (v :: st)) : Go l Z R E Q M k n pc Ls (.int j :: .ref a :: st) := by
  intro T locs X F r
  obtain ⟨c, A, e⟩ := H _ r
  obtain ⟨g1, g2⟩ := in_of e h0 hv
  obtain ⟨s₂, v, L, h1, h2⟩ := hr T locs X F r
  exact ⟨s₂, v, L, Stand.iaload X C.1 A.1 (State.isArrayOf_alike C.2.1.alike A.2.1) A.2.2 g1 g2 (g := mkF E.2.2.2.1 pc Ls (.int j :: .ref a :: st)) rfl rfl (hb C.2.2.2.1 hd) _ (hq ▸ h1), h2⟩
theorem Go.laload (C : Cx Z x code maxL ret E) {a : Addr} {vs : List Value} {j : Int32} {v : Value} (H : ∀ h, Rep Z h M → ArrIs Z h a .long vs) (h0 : ¬ j < 0) (hv : vs[j.toNatClampNeg]? = some v) (hd : decode code pc = .ok (.laload, 1)) (hq : pc + 1 = q) (hr : Go l Z R E Q M k n q Ls (v :: st)) : Go l Z R E Q M k n pc Ls (.int j :: .ref a :: st) := by
  intro T locs X F r
  obtain ⟨c, A, e⟩ := H _ r
  obtain ⟨g1, g2⟩ := in_of e h0 hv
  obtain ⟨s₂, v, L, h1, h2⟩ := hr T locs X F r
  exact ⟨s₂, v, L, Stand.laload X C.1 A.1 (State.isArrayOf_alike C.2.1.alike A.2.1) A.2.2 g1 g2 (g := mkF E.2.2.2.1 pc Ls (.int j :: .ref a :: st)) rfl rfl (hb C.2.2.2.1 hd) _ (hq ▸ h1), h2⟩
theorem Go.aaload (C : Cx Z x code maxL ret E) {a : Addr} {ty : FieldType} {vs : List Value} {j : Int32} {v : Value} (H : ∀ h, Rep Z h M → ArrIs Z h a ty vs) (hty : ty.isReference = true) (h0 : ¬ j < 0) (hv : vs[j.toNatClampNeg]? = some v) (hd : decode code pc = .ok (.aaload, 1)) (hq : pc + 1 = q) (hr : Go l Z R E Q M k n q Ls (v :: st)) : Go l Z R E Q M k n pc Ls (.int j :: .ref a :: st) := by
  intro T locs X F r
  obtain ⟨c, A, e⟩ := H _ r
  obtain ⟨g1, g2⟩ := in_of e h0 hv
  obtain ⟨s₂, v, L, h1, h2⟩ := hr T locs X F r
  exact ⟨s₂, v, L, Stand.aaload X C.1 A.1 (State.isArrayOf_alike C.2.1.alike A.2.1) hty A.2.2 g1 g2 (g := mkF E.2.2.2.1 pc Ls (.int j :: .ref a :: st)) rfl rfl (hb C.2.2.2.1 hd) _ (hq ▸ h1), h2⟩
theorem Go.iastore (C : Cx Z x code maxL ret E) {a : Addr} {vs : List Value} {i : Nat} {j : Int32} {w : Int32} {w' : Value} {M' : List Ent} (hi : M[i]? = some (a, .inr (.int, vs, true))) (h0 : ¬ j < 0) (hv : j.toNatClampNeg < vs.length) (hw : .int w = w') (hd : decode code pc = .ok (.iastore, 1)) (hq : pc + 1 = q) (hM : M.set i (a, .inr (.int, vs.set j.toNatClampNeg w', true)) = M') (hr : Go l Z R E Q M' k n q Ls st) : Go l Z R E Q M k n pc Ls (.int w :: .int j :: .ref a :: st) := by
  intro T locs X F r
  subst hw
  obtain ⟨c, A, e, o⟩ := (r.2.1 i _ hi).2
  have g1 : ¬ (j < 0 ∨ c.slots.size ≤ j.toNatClampNeg) := fun q => q.elim h0 fun q => by rw [← e, Array.length_toList] at hv; omega
  obtain ⟨T', h', X', e', W, s'⟩ := stI X C.1 C.2.1 rfl A g1 (g := mkF E.2.2.2.1 pc Ls (.int w :: .int j :: .ref a :: st)) rfl rfl (hb C.2.2.2.1 hd)
  obtain ⟨s₂, v, L, h1, h2⟩ := hr T' _ X' (Fr.snoc X' F (r.fresh hi)) (by rw [e', ← hM]; exact r.wrote hi W ((r.2.1 i _ hi).2.store W))
  exact ⟨s₂, v, L, s' _ (hq ▸ h1), h2⟩
theorem Go.lastore (C : Cx Z x code maxL ret E) {a : Addr} {vs : List Value} {i : Nat} {j : Int32} {w : Int64} {w' : Value} {M' : List Ent} (hi : M[i]? = some (a, .inr (.long, vs, true))) (h0 : ¬ j < 0) (hv : j.toNatClampNeg < vs.length) (hw : .long w = w') (hd : decode code pc = .ok (.lastore, 1)) (hq : pc + 1 = q) (hM : M.set i (a, .inr (.long, vs.set j.toNatClampNeg w', true)) = M') (hr : Go l Z R E Q M' k n q Ls st) : Go l Z R E Q M k n pc Ls (.long w :: .int j :: .ref a :: st) := by
  intro T locs X F r
  subst hw
  obtain ⟨c, A, e, o⟩ := (r.2.1 i _ hi).2
  have g1 : ¬ (j < 0 ∨ c.slots.size ≤ j.toNatClampNeg) := fun q => q.elim h0 fun q => by rw [← e, Array.length_toList] at hv; omega
  obtain ⟨T', h', X', e', W, s'⟩ := stJ X C.1 C.2.1 rfl A g1 (g := mkF E.2.2.2.1 pc Ls (.long w :: .int j :: .ref a :: st)) rfl rfl (hb C.2.2.2.1 hd)
  obtain ⟨s₂, v, L, h1, h2⟩ := hr T' _ X' (Fr.snoc X' F (r.fresh hi)) (by rw [e', ← hM]; exact r.wrote hi W ((r.2.1 i _ hi).2.store W))
  exact ⟨s₂, v, L, s' _ (hq ▸ h1), h2⟩
/-- v may lie in an array of K -/
def Fits (Z : State) (h : Heap) (K : String) (v : Value) : Prop := v = .null ∨ ∃ y, v = .ref y ∧ Ins Z h y K true
theorem Go.aastore (C : Cx Z x code maxL ret E) {a : Addr} {K : String} {vs : List Value} {i : Nat} {j : Int32} {v : Value} {M' : List Ent} (hi : M[i]? = some (a, .inr (.object K, vs, true))) (h0 : ¬ j < 0) (hv : j.toNatClampNeg < vs.length) (S : ∀ h, Rep Z h M → Fits Z h K v) (hd : decode code pc = .ok (.aastore, 1)) (hq : pc + 1 = q) (hM : M.set i (a, .inr (.object K, vs.set j.toNatClampNeg v, true)) = M') (hr : Go l Z R E Q M' k n q Ls st) : Go l Z R E Q M k n pc Ls (v :: .int j :: .ref a :: st) := by
  intro T locs X F r
  obtain ⟨c, A, e, o⟩ := (r.2.1 i _ hi).2
  have g1 : ¬ (j < 0 ∨ c.slots.size ≤ j.toNatClampNeg) := fun q => q.elim h0 fun q => by rw [← e, Array.length_toList] at hv; omega
  have g2 : Sto Z T.heap a v := (S _ r).imp id fun ⟨y, e', I⟩ => by
    subst e'
    exact (Sto.of A ((o rfl).1 K rfl) I).elim (fun q => by cases q) id
  obtain ⟨T', h', X', e', W, s'⟩ := stR X C.1 C.2.1 rfl A g1 rfl g2 (g := mkF E.2.2.2.1 pc Ls (v :: .int j :: .ref a :: st)) rfl rfl (hb C.2.2.2.1 hd)
  obtain ⟨s₂, v, L, h1, h2⟩ := hr T' _ X' (Fr.snoc X' F (r.fresh hi)) (by rw [e', ← hM]; exact r.wrote hi W ((r.2.1 i _ hi).2.store W))
  exact ⟨s₂, v, L, s' _ (hq ▸ h1), h2⟩
theorem Go.newarray (C : Cx Z x code maxL ret E) {aty : ArrayType} {z : Int32} {cap k' n' : Nat} {ty : FieldType} {vs : List Value} (w : (Cond.arrayClass ty).before a0 Z = true) (hty : newarray.typeOf aty = ty) (hpr : ∀ C, ty ≠ .object C) (h0 : ¬ z < 0) (hcap : z.toNatClampNeg ≤ cap) (hb8 : cap * 8 ≤ 536870912) (hvs : List.replicate z.toNatClampNeg (defaultValue ty) = vs) (hd : decode code pc = .ok (.newarray aty, 2)) (hq : pc + 2 = q)
    (hc : k + 1 ≤ R.cells) (hs : n + cap ≤ R.slots) (hk : k + 1 = k') (hn : n + cap = n') (hr : ∀ a, Go l Z R E Q ((a, .inr (ty, vs, true)) :: M) k' n' q Ls (.ref a :: st)) : Go l Z R E Q M k n pc Ls (.int z :: st) := by
  intro T locs X F r
  subst hty
  obtain ⟨T', h', cA, X', e', Ex, A, Ea, s'⟩ := newPE X C.1 C.2.1 w rfl (g := mkF E.2.2.2.1 pc Ls (.int z :: st)) rfl (hb C.2.2.2.1 hd) rfl h0 hcap hb8 hc hs rfl
  subst hk hn
  obtain ⟨s₂, v, L, h1, h2⟩ := hr _ T' _ X' F (by
    rw [e']
    exact r.new Ex rfl ⟨_, A, by rw [← hvs]; simp [newA], fun _ => ⟨fun C e => absurd e (hpr C), fun t e => (by cases aty <;> cases e), Ea⟩⟩)
  exact ⟨s₂, v, L, s' _ (hq ▸ h1), h2⟩
theorem Go.anewarray (C : Cx Z x code maxL ret E) {idx : Nat} {K : String} {z : Int32} {cap k' n' : Nat} {vs : List Value} (w1 : (Cond.classLink x.cls idx K).before a0 Z = true) (w2 : (Cond.arrayOver (.object K)).before a0 Z = true) (h0 : ¬ z < 0) (hcap : z.toNatClampNeg ≤ cap) (hb8 : cap * 8 ≤ 536870912) (hvs : List.replicate z.toNatClampNeg (.null : Value) = vs) (hd : decode code pc = .ok (.anewarray idx, 3)) (hq : pc + 3 = q)
    (hc : k + 1 ≤ R.cells) (hs : n + cap ≤ R.slots) (hk : k + 1 = k') (hn : n + cap = n') (hr : ∀ a, Go l Z R E Q ((a, .inr (.object K, vs, true)) :: M) k' n' q Ls (.ref a :: st)) : Go l Z R E Q M k n pc Ls (.int z :: st) := by
  intro T locs X F r
  obtain ⟨T', h', cA, X', e', Ex, A, Ea, O, s'⟩ := newRE X C.1 C.2.1 C.2.2.1 w1 w2 rfl (g := mkF E.2.2.2.1 pc Ls (.int z :: st)) rfl (hb C.2.2.2.1 hd) rfl h0 hcap hb8 hc hs rfl
  subst hk hn
  obtain ⟨s₂, v, L, h1, h2⟩ := hr _ T' _ X' F (by
    rw [e']
    exact r.new Ex rfl ⟨_, A, by rw [← hvs]; simp [newA, defaultValue], fun _ => ⟨fun C e => by cases e; exact O, fun t e => (by cases e), Ea⟩⟩)
  exact ⟨s₂, v, L, s' _ (hq ▸ h1), h2⟩
theorem Go.anewarrayA (C : Cx Z x code maxL ret E) {idx : Nat} {K : String} {t : FieldType} {z : Int32} {cap k' n' : Nat} {vs : List Value} (hK : (FieldType.array t).toString = K) (w1 : (Cond.classLink x.cls idx K).before a0 Z = true) (w2 : (Cond.arrayOver (.array t)).before a0 Z = true) (h0 : ¬ z < 0) (hcap : z.toNatClampNeg ≤ cap) (hb8 : cap * 8 ≤ 536870912) (hvs : List.replicate z.toNatClampNeg (.null : Value) = vs) (hd : decode code pc = .ok (.anewarray idx, 3)) (hq : pc + 3 = q)
    (hc : k + 1 ≤ R.cells) (hs : n + cap ≤ R.slots) (hk : k + 1 = k') (hn : n + cap = n') (hr : ∀ a, Go l Z R E Q ((a, .inr (.array t, vs, true)) :: M) k' n' q Ls (.ref a :: st)) : Go l Z R E Q M k n pc Ls (.int z :: st) := by
  intro T locs X F r
  subst hK
  obtain ⟨T', h', cA, X', e', Ex, A, Ea, O, s'⟩ := newRA X C.1 C.2.1 C.2.2.1 rfl w1 w2 rfl (g := mkF E.2.2.2.1 pc Ls (.int z :: st)) rfl (hb C.2.2.2.1 hd) rfl h0 hcap hb8 hc hs rfl
  subst hk hn
  obtain ⟨s₂, v, L, h1, h2⟩ := hr _ T' _ X' F (by
    rw [e']
    exact r.new Ex rfl ⟨_, A, by rw [← hvs]; simp [newA, defaultValue], fun _ => ⟨fun C e => (by cases e), fun t e => (by cases e; exact O), Ea⟩⟩)
  exact ⟨s₂, v, L, s' _ (hq ▸ h1), h2⟩
theorem Go.aastoreA (C : Cx Z x code maxL ret E) {a : Addr} {t : FieldType} {K : String} {vs : List Value} {i : Nat} {j : Int32} {v : Value} {M' : List Ent} (hK : (FieldType.array t).toString = K) (hi : M[i]? = some (a, .inr (.array t, vs, true))) (h0 : ¬ j < 0) (hv : j.toNatClampNeg < vs.length) (S : ∀ h, Rep Z h M → Fits Z h K v) (hd : decode code pc = .ok (.aastore, 1)) (hq : pc + 1 = q) (hM : M.set i (a, .inr (.array t, vs.set j.toNatClampNeg v, true)) = M') (hr : Go l Z R E Q M' k n q Ls st) : Go l Z R E Q M k n pc Ls (v :: .int j :: .ref a :: st) := by
  intro T locs X F r
  subst hK
  obtain ⟨c, A, e, o⟩ := (r.2.1 i _ hi).2
  have g1 : ¬ (j < 0 ∨ c.slots.size ≤ j.toNatClampNeg) := fun q => q.elim h0 fun q => by rw [← e, Array.length_toList] at hv; omega
  have g2 : Sto Z T.heap a v := (S _ r).imp id fun ⟨y, e', I⟩ => by
    subst e'
    exact (Sto.ofVA A rfl ((o rfl).2.1 t rfl) I).elim (fun q => by cases q) id
  obtain ⟨T', h', X', e', W, s'⟩ := stR X C.1 C.2.1 rfl A g1 rfl g2 (g := mkF E.2.2.2.1 pc Ls (v :: .int j :: .ref a :: st)) rfl rfl (hb C.2.2.2.1 hd)
  obtain ⟨s₂, v, L, h1, h2⟩ := hr T' _ X' (Fr.snoc X' F (r.fresh hi)) (by rw [e', ← hM]; exact r.wrote hi W ((r.2.1 i _ hi).2.store W))
  exact ⟨s₂, v, L, s' _ (hq ▸ h1), h2⟩
theorem Rep.exaA {h : Heap} {a : Addr} {ty : FieldType} {vs : List Value} {ad : String} (r : Rep Z h M) (i : Nat) (hi : M[i]? = some (a, .inr (ty, vs, true))) (had : "[" ++ ty.toString = ad) : Exa Z h a ad := by
  obtain ⟨c, A, e, o⟩ := (r.2.1 i _ hi).2
  exact had ▸ (o rfl).2.2
theorem Met.conv {y : MethodName} {bytes : ByteArray} {rm : Room} {as : Array Value} {M0 : List Ent} {Q' : PQ} (hp : M0.Perm M) (H : Met l Z y bytes maxL ret rm as M Q) (hq : ∀ v M', Q v M' → ∃ M'', M'.Perm M'' ∧ Q' v M'') : Met l Z y bytes maxL ret rm as M0 Q' := by
  intro ws h r p e ha hc hk s m args below hf happ hP hK
  obtain ⟨n, o, h1, h2, h3, v, L, h4, ⟨h5, M', h6, h7⟩, h8⟩ := H ws h (r.perm hp) p e ha hc hk s m args below hf happ hP hK
  obtain ⟨M'', g1, g2⟩ := hq _ _ h6
  exact ⟨n, o, h1, h2, h3, v, L, h4, ⟨h5, M'', g2, h7.perm g1⟩, h8⟩
/-- a stale local: none, or a value of one slot -/
def Pl (s : Slot) : Prop := s = .unset ∨ ∃ v : Value, s = .val v ∧ v.category = 1
theorem stl {L L' : Array Slot} {i : Nat} {s : Slot} {v : Value} (hs : L[i]? = some s) (hp : Pl s) (hv : v.category = 1) (e : setAt L i (.val v) = some L') : storeLocals L i v = some L' := by
  rcases hp with rfl | ⟨u, rfl, hu⟩
  · simp [storeLocals, storeSelf, hs, e, hv]
  · simp [storeLocals, storeSelf, hs, e, hv, hu]
theorem nsRoot {O K : String} {kk : Nat} (w : (Cond.noSuperclass O).before a0 Z = true) (wk : (Cond.instantiable K kk).before a0 Z = true) (hn : O ≠ K) : NS Z O K := by
  obtain ⟨c, k, h1, h2, h3, -, -⟩ := Cond.noSuperclass_spec w
  obtain ⟨t, _, g1, -⟩ := Cond.instantiable_spec wk
  have ne := ids_ne h1 g1 hn
  refine ⟨c, t, h1, g1, fun fuel => ?_⟩
  cases fuel with
  | zero => rfl
  | succ f => simp [Vm.isSubclassAux, ne, h2, h3]
theorem nsNo {C' S K : String} {kk : Nat} (w : (Cond.superclass C' S).before a0 Z = true) (wk : (Cond.instantiable K kk).before a0 Z = true) (n : NS Z C' K) (hn : C' ≠ K) : ∃ c t, Z.vm.findClass C' = some c ∧ Z.vm.findClass K = some t ∧ Z.vm.assignable c t = false := by
  obtain ⟨c, t, h0, g0, n3⟩ := n
  obtain ⟨p, k, kp, h1, h2, h3, h4, h5, -, h7⟩ := Cond.superclass_spec h0 w
  obtain ⟨t', k', g1, g2, g5, g7, -⟩ := Cond.instantiable_spec wk
  cases g0.symm.trans g1
  have ne := ids_ne h0 g0 hn
  have g8 : k'.isInterface = false := by cases h : k'.isInterface <;> simp [h] at g7 ⊢
  refine ⟨c, t, h0, g0, ?_⟩
  show Z.vm.assignableAux (255 + 1) c t = false
  simp [Vm.assignableAux, ne, h2, g2, h5, g5, g8, Vm.isSubclass, n3]
/-! calls -/
theorem nf_sel {K : String} {y z : MethodName} (w : (Cond.selects K y y).before a0 Z = true) : ∀ s : State, Z.Warmed39 s.vm → NotFace s y := fun s hZ => notFace_of_selects (args := #[]) (mvT hZ w)
theorem nf_same {K : String} {y y' : MethodName} (hc : y.cls = y'.cls) (w : (Cond.selects K y' y').before a0 Z = true) : ∀ s : State, Z.Warmed39 s.vm → NotFace s y := fun s hZ r0 h0 => by
  obtain ⟨c2, r2, m2, q1, q2, q3, q4, kP, hkP, hkPi⟩ := Cond.selects_spec (mvT (args := #[]) hZ w)
  have e1 := findClass_of_methodNamed h0
  have e2 := findClass_of_methodNamed q3
  rw [hc, e2] at e1
  have e3 := Option.some.inj e1
  exact ⟨kP, e3 ▸ hkP, hkPi⟩
theorem nf_sup {y : MethodName} {S : String} (w : (Cond.superclass y.cls S).before a0 Z = true) : ∀ s : State, Z.Warmed39 s.vm → NotFace s y := fun s hZ => nf_super (args := #[]) (mvT hZ w)
theorem nf_topS {y : MethodName} (w : (Cond.noSuperclass y.cls).before a0 Z = true) : ∀ s : State, Z.Warmed39 s.vm → NotFace s y := fun s hZ => nf_top (args := #[]) (mvT hZ w)
theorem sel_priv {y : MethodName} {n1 : Nat} (w1 : (Cond.instantiable y.cls n1).before a0 Z = true) (w2 : (Cond.instanceMethod y).before a0 Z = true) (w3 : (Cond.privateMethod y).before a0 Z = true) (hy : y.cls ≠ "java/lang/invoke/MethodHandle" ∧ y.cls ≠ "java/lang/invoke/VarHandle") : (Cond.selects y.cls y y).before a0 Z = true := by
  obtain ⟨c, k, h1, h2, -, h3, -⟩ := Cond.instantiable_spec w1
  exact selects_self_of_private h1 h2 (by simp at h3; exact h3.1) (Cond.privateMethod_at w3) w2 hy
section Calls
variable {y : MethodName} {bytes : ByteArray} {mL : Nat} {rt : Option FieldType} {rm : Room} {as rest : List Value} {Qc : PQ} {idx k' n' : Nat}
theorem len_ok {d : String} (h : (parseMethodDescriptor d).map (fun s => s.parameters.length) = some as.length) : ∀ sig, parseMethodDescriptor d = some sig → as.length = sig.parameters.length := fun sig e => by
  rw [e] at h
  exact (Option.some.inj h).symm
theorem Go.callS (C : Cx Z x code maxL ret E) (w1 : (Cond.methodLink x.cls idx y).before a0 Z = true) (w2 : (Cond.static y).before a0 Z = true) (w3 : (Cond.initialized y.cls).before a0 Z = true) (w4 : (Cond.code y bytes mL rt).before a0 Z = true) (hM : Met l Z y bytes mL rt rm as.toArray M Qc) (hst : st = as.reverse ++ rest)
    (hd : decode code pc = .ok (.invokestatic idx, 3)) (hq : pc + 3 = q) (hy : y.cls ≠ "java/lang/invoke/MethodHandle" ∧ y.cls ≠ "java/lang/invoke/VarHandle") (hsz : Ls.size = maxL) {na W : Nat} (hlen : (parseMethodDescriptor y.desc).map (fun s => s.parameters.length) = some na) (hna : as.length = na) (hf : rm.frames + 1 ≤ R.frames) (hW : (rest.map fun v => v.category).sum = W) (hl : W + (mL + 11) + rm.locals ≤ R.locals) (hc : k + rm.cells ≤ R.cells) (hs : n + rm.slots ≤ R.slots) (hk : k + rm.cells = k') (hn : n + rm.slots = n')
    (hr : ∀ v M', Qc v M' → Go l Z R E Q M' k' n' q Ls (v.toList ++ rest)) : Go l Z R E Q M k n pc Ls st := by
  subst hna hW
  intro T locs X F r
  obtain ⟨v, _, ⟨T', L', c', s'⟩, -, X', ⟨Lc, hQ, l', y', z'⟩, hst'⟩ := Jvm.LawKit.callS X C.1 C.2.2.1 (mvT C.2.1 w1) (mvT C.2.1 w2) (mvT C.2.1 w3) (mvT C.2.1 w4) hy (backOf (W := (rest.map fun v => v.category).sum) (h := T.heap) (Q := fun v h L => Fr Z.heap.size L ∧ ∃ M', Qc v M' ∧ Rep Z h M') (hM [] _ r) C.2.1 w4 w3 hf hl) (g := mkF E.2.2.2.1 pc Ls st) rfl (hsz.trans C.2.2.2.2.1.symm) (argsL := as) (rest := rest) (len_ok hlen) hst (by show 2 * 0 + _ ≤ _; omega) (hb C.2.2.2.1 hd) (fun _ _ => ⟨rfl, rfl, hc, hs⟩)
  dsimp only [Pt.U, Pt.locs, Pt.cells, Pt.slots] at X' l' y' z' hst' hQ
  obtain ⟨FL, M', hQ', r'⟩ := hQ
  subst l' y' z' hk hn
  obtain ⟨s₂, v, L, h1, h2⟩ := hr v M' hQ' T' _ X' (F.app FL) r'
  exact ⟨s₂, v, L, hst' _ (hq ▸ h1), h2⟩
theorem Go.callI (C : Cx Z x code maxL ret E) {a : Addr} (w1 : (Cond.methodLink x.cls idx y).before a0 Z = true) (w2 : (Cond.instanceMethod y).before a0 Z = true) (w3 : (Cond.initialized y.cls).before a0 Z = true) (w4 : (Cond.code y bytes mL none).before a0 Z = true) (hM : Met l Z y bytes mL none rm (.ref a :: as).toArray M Qc) (hst : st = as.reverse ++ .ref a :: rest) (hy1 : y.name = "<init>")
    (hd : decode code pc = .ok (.invokespecial idx, 3)) (hq : pc + 3 = q) (hy : y.cls ≠ "java/lang/invoke/MethodHandle" ∧ y.cls ≠ "java/lang/invoke/VarHandle") (hsz : Ls.size = maxL) {na W : Nat} (hlen : (parseMethodDescriptor y.desc).map (fun s => s.parameters.length) = some na) (hna : as.length = na) (hf : rm.frames + 1 ≤ R.frames) (hW : (rest.map fun v => v.category).sum = W) (hl : W + (mL + 11) + rm.locals ≤ R.locals) (hc : k + rm.cells ≤ R.cells) (hs : n + rm.slots ≤ R.slots) (hk : k + rm.cells = k') (hn : n + rm.slots = n')
    (hr : ∀ v M', Qc v M' → Go l Z R E Q M' k' n' q Ls (v.toList ++ rest)) : Go l Z R E Q M k n pc Ls st := by
  subst hna hW
  intro T locs X F r
  obtain ⟨v, _, ⟨T', L', c', s'⟩, -, X', ⟨Lc, hQ, l', y', z'⟩, hst'⟩ := Stand.specialBack X C.1 hy1 C.2.2.1 (mvT C.2.1 w1) (mvT C.2.1 w2) (mvT C.2.1 w4) hy (backOf (W := (rest.map fun v => v.category).sum) (h := T.heap) (Q := fun v h L => Fr Z.heap.size L ∧ ∃ M', Qc v M' ∧ Rep Z h M') (hM [] _ r) C.2.1 w4 w3 hf hl) (g := mkF E.2.2.2.1 pc Ls st) rfl (hsz.trans C.2.2.2.2.1.symm) (Steps.refl _) (a := a) (argsL := as) (rest := rest) (len_ok hlen) hst (by show 2 * 0 + _ ≤ _; omega) (hb C.2.2.2.1 hd) (fun _ _ => ⟨rfl, rfl, hc, hs⟩)
  dsimp only [Pt.U, Pt.locs, Pt.cells, Pt.slots] at X' l' y' z' hst' hQ
  obtain ⟨FL, M', hQ', r'⟩ := hQ
  subst l' y' z' hk hn
  obtain ⟨s₂, v, L, h1, h2⟩ := hr v M' hQ' T' _ X' (F.app FL) r'
  exact ⟨s₂, v, L, hst'.trans (hq ▸ h1), h2⟩
theorem Go.callV (C : Cx Z x code maxL ret E) {a : Addr} {K : String} {z : MethodName} (w1 : (Cond.methodLink x.cls idx y).before a0 Z = true) (w2 : (Cond.declares y).before a0 Z = true) (nf : ∀ s : State, Z.Warmed39 s.vm → NotFace s y) (w3 : (Cond.selects K y z).before a0 Z = true) (w4 : (Cond.instanceMethod z).before a0 Z = true) (w5 : (Cond.code z bytes mL rt).before a0 Z = true) (w6 : (Cond.initialized z.cls).before a0 Z = true) (H : ∀ h, Rep Z h M → Exa Z h a K) (hM : Met l Z z bytes mL rt rm (.ref a :: as).toArray M Qc) (hst : st = as.reverse ++ .ref a :: rest)
    (hd : decode code pc = .ok (.invokevirtual idx, 3)) (hq : pc + 3 = q) (hy : y.cls ≠ "java/lang/invoke/MethodHandle" ∧ y.cls ≠ "java/lang/invoke/VarHandle") (hsz : Ls.size = maxL) {na W : Nat} (hlen : (parseMethodDescriptor y.desc).map (fun s => s.parameters.length) = some na) (hna : as.length = na) (hf : rm.frames + 1 ≤ R.frames) (hW : (rest.map fun v => v.category).sum = W) (hl : W + (mL + 11) + rm.locals ≤ R.locals) (hc : k + rm.cells ≤ R.cells) (hs : n + rm.slots ≤ R.slots) (hk : k + rm.cells = k') (hn : n + rm.slots = n')
    (hr : ∀ v M', Qc v M' → Go l Z R E Q M' k' n' q Ls (v.toList ++ rest)) : Go l Z R E Q M k n pc Ls st := by
  subst hna hW
  intro T locs X F r
  have nf' : NotFace E.2.2.1 y := nf _ C.2.1
  obtain ⟨_, _, q1, q2, q3⟩ := isOf C.2.1 (rfl : T.heap = T.heap) (H _ r)
  obtain ⟨v, _, ⟨T', L', c', s'⟩, -, X', ⟨Lc, hQ, l', y', z'⟩, hst'⟩ := Stand.virtualBack X C.1 C.2.2.1 (mvT C.2.1 w1) (mvT C.2.1 w2) nf' (mvT C.2.1 w3) (mvT C.2.1 w4) hy (backOf (W := (rest.map fun v => v.category).sum) (h := T.heap) (Q := fun v h L => Fr Z.heap.size L ∧ ∃ M', Qc v M' ∧ Rep Z h M') (hM [] _ r) C.2.1 w5 w6 hf hl) q1 q3 (g := mkF E.2.2.2.1 pc Ls st) rfl (hsz.trans C.2.2.2.2.1.symm) (Steps.refl _) (argsL := as) (rest := rest) (len_ok hlen) hst (by show 2 * 0 + _ ≤ _; omega) (hb C.2.2.2.1 hd) (fun _ _ => ⟨rfl, rfl, hc, hs⟩)
  dsimp only [Pt.U, Pt.locs, Pt.cells, Pt.slots] at X' l' y' z' hst' hQ
  obtain ⟨FL, M', hQ', r'⟩ := hQ
  subst l' y' z' hk hn
  obtain ⟨s₂, v, L, h1, h2⟩ := hr v M' hQ' T' _ X' (F.app FL) r'
  exact ⟨s₂, v, L, hst'.trans (hq ▸ h1), h2⟩
theorem Go.callP (C : Cx Z x code maxL ret E) {a : Addr} {K : String} (w1 : (Cond.methodLink x.cls idx y).before a0 Z = true) (w2 : (Cond.instanceMethod y).before a0 Z = true) (w3 : (Cond.selects y.cls y y).before a0 Z = true) (w4 : (Cond.privateMethod y).before a0 Z = true) (w5 : (Cond.code y bytes mL rt).before a0 Z = true) (w6 : (Cond.initialized y.cls).before a0 Z = true) (H : ∀ h, Rep Z h M → Exa Z h a K) (hM : Met l Z y bytes mL rt rm (.ref a :: as).toArray M Qc) (hst : st = as.reverse ++ .ref a :: rest)
    (hd : decode code pc = .ok (.invokevirtual idx, 3)) (hq : pc + 3 = q) (hy : y.cls ≠ "java/lang/invoke/MethodHandle" ∧ y.cls ≠ "java/lang/invoke/VarHandle") (hsz : Ls.size = maxL) {na W : Nat} (hlen : (parseMethodDescriptor y.desc).map (fun s => s.parameters.length) = some na) (hna : as.length = na) (hf : rm.frames + 1 ≤ R.frames) (hW : (rest.map fun v => v.category).sum = W) (hl : W + (mL + 11) + rm.locals ≤ R.locals) (hc : k + rm.cells ≤ R.cells) (hs : n + rm.slots ≤ R.slots) (hk : k + rm.cells = k') (hn : n + rm.slots = n')
    (hr : ∀ v M', Qc v M' → Go l Z R E Q M' k' n' q Ls (v.toList ++ rest)) : Go l Z R E Q M k n pc Ls st := by
  subst hna hW
  intro T locs X F r
  obtain ⟨cq, q1, q2⟩ := (H _ r).cell
  obtain ⟨v, _, ⟨T', L', c', s'⟩, -, X', ⟨Lc, hQ, l', y', z'⟩, hst'⟩ := Stand.privateBack X C.1 C.2.2.1 (mvT C.2.1 w1) (mvT C.2.1 w2) (mvT C.2.1 w3) (Cond.privateMethod_at (mvP C.2.1 w4 (args := #[]))) (mvT C.2.1 w5) hy (backOf (W := (rest.map fun v => v.category).sum) (h := T.heap) (Q := fun v h L => Fr Z.heap.size L ∧ ∃ M', Qc v M' ∧ Rep Z h M') (hM [] _ r) C.2.1 w5 w6 hf hl) (g := mkF E.2.2.2.1 pc Ls st) rfl (hsz.trans C.2.2.2.2.1.symm) (Steps.refl _) q1 q2 (argsL := as) (rest := rest) (len_ok hlen) hst (by show 2 * 0 + _ ≤ _; omega) (hb C.2.2.2.1 hd) (fun _ _ => ⟨rfl, rfl, hc, hs⟩)
  dsimp only [Pt.U, Pt.locs, Pt.cells, Pt.slots] at X' l' y' z' hst' hQ
  obtain ⟨FL, M', hQ', r'⟩ := hQ
  subst l' y' z' hk hn
  obtain ⟨s₂, v, L, h1, h2⟩ := hr v M' hQ' T' _ X' (F.app FL) r'
  exact ⟨s₂, v, L, hst'.trans (hq ▸ h1), h2⟩
theorem mvF {Z s : State} {a0 args : Array Value} {r n d : String} (hr : r ≠ "java/lang/invoke/MethodHandle" ∧ r ≠ "java/lang/invoke/VarHandle") (hZ : Z.Warmed39 s.vm) (h : (Cond.interfaceMethod r r n d).before a0 Z = true) : (Cond.interfaceMethod r r n d).before args s = true :=
  mvT hZ h (by simp [Cond.onTables, Cond.keepsFace, Cond.keeps, Cond.steady, Cond.faceAtom]; exact hr)
theorem same_of_sel {K : String} {x y : MethodName} (hy : y.cls ≠ "java/lang/invoke/MethodHandle" ∧ y.cls ≠ "java/lang/invoke/VarHandle") (w : (Cond.selects K x y).before a0 Z = true) : (Cond.sameMethod y.cls y.cls y.name y.desc).before a0 Z = true := by
  obtain ⟨c, r, m, q1, q2, q3, q4, mk, h1, h2⟩ := Cond.selects_spec w
  have hf := State.methodFound?_of_named q3 hy
  have hc := findClass_of_methodNamed q3
  have q3' : Z.methodNamed? ⟨y.cls, y.name, y.desc⟩ = some m := q3
  simp only [Cond.before, Cond.holds, Cond.value, hc, hf, q3', h1]
  simp [h2]
end Calls
/-! returns -/
theorem Go.ret0 (C : Cx Z x code maxL ret E) (hret : ret = none) (hd : decode code pc = .ok (.return_, 1)) (hc : k ≤ R.cells) (hs : n ≤ R.slots) (hQ : Q none M) : Go l Z R E Q M k n pc Ls [] := by
  intro T locs X F r
  obtain ⟨fs, hr, hrun, hended, hW, hsame⟩ := Stand.leave X (v := none) (fun _ => rfl) C.2.2.2.2.2.2.1
  exact ⟨_, none, locs, Stand.returnOut X C.1 (C.2.2.2.2.2.1.trans hret) (hb C.2.2.2.1 hd) hr, hrun, hended, F, ⟨M, hQ, r⟩, ⟨_, rfl⟩, hW, hsame.mono hc hs⟩
theorem Go.retW (C : Cx Z x code maxL ret E) {t : FieldType} {i : Instr} {w : Value} (hret : ret = some t) (hn : narrow t w = w)
    (hi : (i = .ireturn ∧ (t = .int ∨ t = .boolean ∨ t = .byte ∨ t = .char ∨ t = .short) ∧ ∃ z, w = .int z) ∨ (i = .lreturn ∧ t = .long ∧ ∃ z, w = .long z) ∨ (i = .dreturn ∧ t = .double ∧ ∃ z, w = .double z) ∨ (i = .freturn ∧ t = .float ∧ ∃ z, w = .float z) ∨ (i = .areturn ∧ t.isReference = true ∧ w.isRef = true))
    (hd : decode code pc = .ok (i, 1)) (hc : k ≤ R.cells) (hs : n ≤ R.slots) (hQ : Q (some w) M) : Go l Z R E Q M k n pc Ls (w :: st) := by
  intro T locs X F r
  obtain ⟨fs, hr, hrun, hended, hW, hsame⟩ := Stand.leave X (v := some w) (fun h => by rw [C.2.2.2.2.2.1, hret] at h; cases h) C.2.2.2.2.2.2.1
  exact ⟨_, some w, locs, retOut X C.1 (C.2.2.2.2.2.1.trans hret) hn hi (hb C.2.2.2.1 hd) hr, hrun, hended, F, ⟨M, hQ, r⟩, ⟨_, rfl⟩, hW, hsame.mono hc hs⟩
theorem Go.retI (C : Cx Z x code maxL ret E) {z : Int32} (hret : ret = some .int) (hd : decode code pc = .ok (.ireturn, 1)) (hc : k ≤ R.cells) (hs : n ≤ R.slots) (hQ : Q (some (.int z)) M) : Go l Z R E Q M k n pc Ls (.int z :: st) :=
  Go.retW C hret rfl (Or.inl ⟨rfl, Or.inl rfl, _, rfl⟩) hd hc hs hQ
theorem Go.retL (C : Cx Z x code maxL ret E) {z : Int64} (hret : ret = some .long) (hd : decode code pc = .ok (.lreturn, 1)) (hc : k ≤ R.cells) (hs : n ≤ R.slots) (hQ : Q (some (.long z)) M) : Go l Z R E Q M k n pc Ls (.long z :: st) :=
  Go.retW C hret rfl (Or.inr (Or.inl ⟨rfl, rfl, _, rfl⟩)) hd hc hs hQ
theorem Go.retZ (C : Cx Z x code maxL ret E) {z : Int32} (hret : ret = some .boolean) (hz : z &&& 1 = z) (hd : decode code pc = .ok (.ireturn, 1)) (hc : k ≤ R.cells) (hs : n ≤ R.slots) (hQ : Q (some (.int z)) M) : Go l Z R E Q M k n pc Ls (.int z :: st) :=
  Go.retW C hret (congrArg Value.int hz) (Or.inl ⟨rfl, Or.inr (Or.inl rfl), _, rfl⟩) hd hc hs hQ
theorem Go.retA (C : Cx Z x code maxL ret E) {t : FieldType} {w : Value} (hret : ret = some t) (ht : t.isReference = true) (hw : w.isRef = true) (hd : decode code pc = .ok (.areturn, 1)) (hc : k ≤ R.cells) (hs : n ≤ R.slots) (hQ : Q (some w) M) : Go l Z R E Q M k n pc Ls (w :: st) :=
  Go.retW C hret (by cases t <;> first | (cases ht; done) | rfl) (Or.inr (Or.inr (Or.inr (Or.inr ⟨rfl, ht, hw⟩)))) hd hc hs hQ
end Walk
/-! entries that have been resolved already, and a private constructor of a nest mate -/
section Ready
variable {p : Program} {l : Launch} {e : Env} {R : Room} {s : State} {m : MethodId} {args : Array Value} {below : List Frame} {meth : Method} {c : Code} {T : State} {locs : List Loc} {cells slots : Nat}
theorem getReady (X : Stand p l e R s m args below meth c T locs cells slots) (hexec : p.tables.exec = Jvm.exec) {index cf : Nat} {f : Field} (hready : T.vm.fieldReady m.cls index cf f) (hst : f.isStatic = false) {a : Addr} {cell : Cell} {v : Value} (hcell : T.heap[a]? = some cell) (hknown : cell.vm ≠ .unknown) (hslot : cell.slots[f.slot]? = some v)
    {g : JFrame} (hg : g.method = m) {rest : List Value} (hstack : g.stack = .ref a :: rest) (hdg : decode c.code g.pc = .ok (.getfield index, 3)) : ∀ target, Steps p.tables e below (T.setTop { g with pc := g.pc + 3, stack := v :: rest }) target → Steps p.tables e below (T.setTop g) target := by
  intro target hrest
  subst hg
  jvm_step X.here [hexec, hdg, getfield.wp_ready (e := e) (s := T) (f := g) X.here.top hready hst hstack hcell hknown hslot]
  exact hrest
theorem virtReady (X : Stand p l e R s m args below meth c T locs cells slots) (hexec : p.tables.exec = Jvm.exec) {index : Nat} {r0 : MethodId} {r : Method} {kr : Class} (hres : namesResolved T.vm m.cls index r0.cls) (hready : T.vm.methodReady m.cls index r0) (hkr : T.vm.classes[r0.cls]? = some kr) (hni : kr.isInterface = false) (hnp : signaturePolymorphic kr r = false) (hrm : T.vm.method? r0 = some r) (hstatic : r.isStatic = false)
    {a : Addr} {cell : Cell} (hcell : T.heap[a]? = some cell) (hobj : ∀ c, cell.vm ≠ .statics c) (hsel : selectMethod e.platform T.vm cell.cls r0 = .method r0) (habs : r.isAbstract = false) {g : JFrame} (hg : g.method = m) {argsL rest : List Value} (hlen : argsL.length = r.sig.parameters.length) (hstack : g.stack = argsL.reverse ++ .ref a :: rest) (hdg : decode c.code g.pc = .ok (.invokevirtual index, 3)) :
    ∀ target, (∀ acts, Steps p.tables e below (doInvoke e (T.setTop { g with stack := rest }) acts r0 (.ref a :: argsL).toArray).1 target) → Steps p.tables e below (T.setTop g) target := by
  intro target hrest
  subst hg
  jvm_step X.here [hexec, hdg, invokevirtual.wp_named (e := e) (s := T) (f := g) (r := r0) (m := r0) (c' := r0.cls) (k := kr) (k' := kr) (mk := kr) (rmeth := r) (meth := r) (a := a) (args := argsL) (rest := rest) (cell := cell) X.here.top hres hkr hni hready hkr hrm hnp hstatic hlen hstack hcell hobj hsel hrm habs hkr hni]
  exact hrest
theorem initReady (X : Stand p l e R s m args below meth c T locs cells slots) (hexec : p.tables.exec = Jvm.exec) {index : Nat} {r0 : MethodId} {r : Method} {kr : Class} (hres : namesResolved T.vm m.cls index r0.cls) (hready : T.vm.methodReady m.cls index r0) (hkr : T.vm.classes[r0.cls]? = some kr) (hrm : T.vm.method? r0 = some r) (hname : r.name = "<init>") (hstatic : r.isStatic = false) (habs : r.isAbstract = false) (hfound : lookupSpecial T.vm r0.cls "<init>" r.desc = .method r0)
    {a : Addr} {g : JFrame} (hg : g.method = m) {argsL rest : List Value} (hlen : argsL.length = r.sig.parameters.length) (hstack : g.stack = argsL.reverse ++ .ref a :: rest) (hdg : decode c.code g.pc = .ok (.invokespecial index, 3)) :
    ∀ target, (∀ acts, Steps p.tables e below (doInvoke e (T.setTop { g with stack := rest }) acts r0 (.ref a :: argsL).toArray).1 target) → Steps p.tables e below (T.setTop g) target := by
  intro target hrest
  subst hg
  jvm_step X.here [hexec, hdg, invokespecial.wp_init (e := e) (s := T) (k := kr) (meth := r) (m := r0) (a := a) (args := argsL) (rest := rest) (f := g) X.here.top hres hready hkr hrm hname hstatic habs hfound hlen hstack]
  exact hrest
/-- what a resolved entry says where the walk stands -/
theorem ref_now (X : Stand p l e R s m args below meth c T locs cells slots) {Z : State} {a0 : Array Value} (hZ : Z.Warmed39 s.vm) {own : String} {index : Nat} {y : MethodName} (hown : s.vm.findClass own = some m.cls) (w : (Cond.methodRef own index y).before a0 Z = true) (hy : y.cls ≠ "java/lang/invoke/MethodHandle" ∧ y.cls ≠ "java/lang/invoke/VarHandle") {mk : MethodId} (hn : s.methodNamed? y = some mk) :
    T.vm.methodReady m.cls index mk ∧ namesResolved T.vm m.cls index mk.cls := by
  have hW : Z.Warmed39 T.vm := wtrans hZ X.warmed
  have hnT : T.methodNamed? y = some mk := X.named hn
  have hnZ : Z.methodNamed? y = some mk := by
    have q : (Z.setVm s.vm).methodNamed? y = some mk := hn
    rw [State.methodNamed?_setVm hZ.alike] at q
    exact q
  have w1 : (Cond.methodRef own index y).before a0 (Z.setVm T.vm) = true := Cond.methodRef_warmed39 hW hnZ hy w
  have w2 : (Cond.methodRef own index y).before a0 T = true := w1
  have hownT : T.vm.findClass own = some m.cls := by rw [X.warmed.alike.findClass]; exact hown
  obtain ⟨m', c', h1, h2, h3, h4⟩ := Cond.methodRef_named e hownT w2
  cases (State.methodFound?_of_named hnT hy).symm.trans h1
  cases (findClass_of_methodNamed hnT).symm.trans h3
  exact ⟨h2, h4⟩
end Ready
section Walk2
variable {l : Launch} {Z : State} {R : Room} {E : E0} {Q : PQ} {M : List Ent} {k n pc q : Nat} {Ls Ls' : Array Slot} {st : List Value} {x : MethodName} {code : ByteArray} {maxL : Nat} {ret : Option FieldType} {a0 : Array Value}
variable {y : MethodName} {bytes : ByteArray} {mL : Nat} {rt : Option FieldType} {rm : Room} {as rest : List Value} {Qc : PQ} {idx k' n' : Nat}
end Walk2
theorem nar_ref {t : FieldType} {v : Value} (h : v.isRef = true) : narrow t v = v := by rcases ref_cases h with rfl | ⟨a, rfl⟩ <;> cases t <;> rfl
theorem fit_obj {K : String} {v : Value} (h : v.isRef = true) : fits (.object K) v = true := by rcases ref_cases h with rfl | ⟨a, rfl⟩ <;> rfl
theorem fld_of_eq {Z : State} {args : Array Value} {t : Term} {a : Addr} {C nm d : String} {k : Int32} (ev : t.eval args Z none [] Z = some (.ref a)) (h : (Cond.eq (.field t C nm d) (.int k)).value args Z none Z [] = some true) : Fld Z Z.heap a C nm d (.int k) := by
  obtain ⟨x, y, h1, h2, h3, h4⟩ := cmp_v (Or.inl h)
  have h2' : (Term.int k).eval args Z none [] Z = some (.int k) := rfl
  have hy : y = .int k := Option.some.inj (h2.symm.trans h2')
  subst hy
  obtain ⟨z, rfl⟩ := h4
  have : z = k := by
    have h5 : (Cond.eq (.field t C nm d) (.int k)).value args Z none Z [] = some (decide (z = k)) := by simp [Cond.value, h1, h2]
    rw [h5] at h
    exact of_decide_eq_true (Option.some.inj h)
  subst this
  rw [fld_at ev] at h1
  exact Fld.start h1
theorem mask_nn (x : Int32) : ¬ (x &&& 2147483647) < 0 := fun h => absurd ((XT.and_neg32 _ _).mp h).2 (by decide)
theorem rem_mask (x d : Int32) (hd : 0 < d.toInt) : 0 ≤ ((x &&& 2147483647) % d).toInt ∧ ((x &&& 2147483647) % d).toInt < d.toInt := by
  have h := mask_nn x
  rw [XT.negI32] at h
  rw [Int32.toInt_mod, Int.tmod_eq_emod_of_nonneg (by omega)]
  exact ⟨Int.emod_nonneg _ (by omega), Int.emod_lt_of_pos _ hd⟩
theorem bool_ok {b : Int32} (h : b = 0 ∨ b = 1) : narrow .boolean (.int b) = .int b ∧ fits .boolean (.int b) = true := by rcases h with rfl | rfl <;> exact ⟨rfl, rfl⟩
theorem ite01 {P : Prop} [Decidable P] : (if P then (1 : Int32) else 0) = 0 ∨ (if P then (1 : Int32) else 0) = 1 := by split <;> simp
theorem ite10 {P : Prop} [Decidable P] : (if P then (0 : Int32) else 1) = 0 ∨ (if P then (0 : Int32) else 1) = 1 := by split <;> simp
theorem and1 {b : Int32} (h : b = 0 ∨ b = 1) : b &&& 1 = b := by rcases h with rfl | rfl <;> rfl
theorem fld_ev {Z : State} {args : Array Value} {t : Term} {a : Addr} {C nm d : String} {v : Value} (ev : t.eval args Z none [] Z = some (.ref a)) (h : (Term.field t C nm d).eval args Z none [] Z = some v) : Fld Z Z.heap a C nm d v := Fld.start ((fld_at ev).symm.trans h)
theorem eq_int {Z : State} {args : Array Value} {idx : List Nat} {t u : Term} {k : Int32} (hu : u.eval args Z none idx Z = some (.int k)) (h : (Cond.eq t u).value args Z none Z idx = some true) : t.eval args Z none idx Z = some (.int k) := by
  obtain ⟨x, y, h1, h2, h3, h4⟩ := cmp_v (Or.inl h)
  have hy : y = .int k := Option.some.inj (h2.symm.trans hu)
  subst hy
  obtain ⟨z, rfl⟩ := h4
  have : z = k := by
    have h5 : (Cond.eq t u).value args Z none Z idx = some (decide (z = k)) := by simp [Cond.value, h1, h2]
    rw [h5] at h
    exact of_decide_eq_true (Option.some.inj h)
  rw [h1, this]
theorem int_of_eq {Z : State} {args : Array Value} {idx : List Nat} {t : Term} {k : Int32} (h : (Cond.eq t (.int k)).value args Z none Z idx = some true) : t.eval args Z none idx Z = some (.int k) := by
  obtain ⟨x, y, h1, h2, h3, h4⟩ := cmp_v (Or.inl h)
  have h2' : (Term.int k).eval args Z none idx Z = some (.int k) := rfl
  have hy : y = .int k := Option.some.inj (h2.symm.trans h2')
  subst hy
  obtain ⟨z, rfl⟩ := h4
  have : z = k := by
    have h5 : (Cond.eq t (.int k)).value args Z none Z idx = some (decide (z = k)) := by simp [Cond.value, h1, h2]
    rw [h5] at h
    exact of_decide_eq_true (Option.some.inj h)
  rw [h1, this]
theorem len_of_eq {Z : State} {args : Array Value} {t : Term} {a : Addr} {c : Cell} {ty : FieldType} {k : Int32} (ev : t.eval args Z none [] Z = some (.ref a)) (A : Arr Z Z.heap a c ty) (h : (Cond.eq (.length t) (.int k)).value args Z none Z [] = some true) : c.slots.toList.length.toInt32 = k ∧ c.slots.toList.length < 2 ^ 31 := by
  have h1 := int_of_eq h
  have e5 := A.fin (Vm.Alike.refl _)
  rw [Array.length_toList]
  by_cases hl : c.slots.size < 2 ^ 31
  · rw [len_f ev e5 hl] at h1
    exact ⟨Value.int.inj (Option.some.inj h1), hl⟩
  · exfalso
    simp [Term.eval, ev, e5, hl] at h1
theorem elem_of_eq {Z : State} {args : Array Value} {t : Term} {a : Addr} {c : Cell} {ty : FieldType} {i k : Int32} (ev : t.eval args Z none [] Z = some (.ref a)) (A : Arr Z Z.heap a c ty) (h : (Cond.eq (.elem t (.int i)) (.int k)).value args Z none Z [] = some true) : c.slots.toList[i.toNatClampNeg]? = some (.int k) := by
  have h1 := int_of_eq h
  have h2 := elem_in (j := i) h1 ev rfl A.1
  rw [Array.getElem?_toList]
  exact h2.2
theorem ge0 {x : Int32} (h : 0 ≤ x.toInt) : ¬ x < 0 := fun q => by rw [XT.negI32] at q; omega
theorem rep0 (s : State) : Rep s s.heap [] := ⟨⟨Nat.le_refl _, fun _ _ q => q⟩, fun i x h => by simp at h, List.nodup_nil⟩
end Jvm.Own
namespace Jvm.Pilot.@@N@@
open Jvm Jvm.ClassFile Sem Op Lib Jvm.Free Jvm.Stand Jvm.LawKit Jvm.RoadKit Bundle Jvm.Own Jvm.Pilot.@@N@@.Jvm.D
set_option maxRecDepth 65536
set_option maxHeartbeats 40000000
abbrev HW (Z : State) (a0 : Array Value) : Prop := ∀ d ∈ tables_1, d.before a0 Z = true
abbrev XI (Z : State) (a : Addr) : Prop := Exa Z Z.heap a "java/lang/Integer"
abbrev yN0 : MethodName := ⟨"com/example/charkha/charkha/WheelsNextEventPinLaw", "law", "(IJJJJJ)Z"⟩
abbrev yN1 : MethodName := ⟨"java/lang/Math", "max", "(JJ)J"⟩
abbrev yN2 : MethodName := ⟨"com/example/charkha/charkha/Timeout", "<init>", "(Lcom/example/charkha/charkha/WheelTimer;Ljava/lang/Runnable;)V"⟩
abbrev yN3 : MethodName := ⟨"java/lang/Object", "<init>", "()V"⟩
abbrev yN4 : MethodName := ⟨"com/example/charkha/charkha/Wheels", "<init>", "(IJ)V"⟩
abbrev yN5 : MethodName := ⟨"java/lang/Long", "numberOfLeadingZeros", "(J)I"⟩
abbrev yN6 : MethodName := ⟨"java/lang/Integer", "numberOfLeadingZeros", "(I)I"⟩
abbrev yN7 : MethodName := ⟨"com/example/charkha/charkha/Wheels", "nextEvent", "()J"⟩
abbrev yN8 : MethodName := ⟨"com/example/charkha/charkha/Wheels", "unlinkRemoved", "()V"⟩
abbrev yN9 : MethodName := ⟨"com/example/charkha/charkha/Wheels", "lowestFiledLevel", "()I"⟩
abbrev yN10 : MethodName := ⟨"com/example/charkha/charkha/Wheels", "add", "(Lcom/example/charkha/charkha/Timeout;J)V"⟩
abbrev yN11 : MethodName := ⟨"com/example/charkha/charkha/Wheels", "file", "(Lcom/example/charkha/charkha/Timeout;)V"⟩
abbrev yN12 : MethodName := ⟨"com/example/charkha/charkha/Wheels", "levelOf", "(J)I"⟩
abbrev yN13 : MethodName := ⟨"com/example/charkha/charkha/Wheels", "digit", "(JI)I"⟩
abbrev yN14 : MethodName := ⟨"java/lang/Math", "min", "(II)I"⟩
abbrev yN15 : MethodName := ⟨"com/example/charkha/charkha/Wheels", "firstFiledSlot", "(I)I"⟩
abbrev yN16 : MethodName := ⟨"java/lang/Long", "numberOfTrailingZeros", "(J)I"⟩
abbrev yN17 : MethodName := ⟨"java/lang/Integer", "numberOfTrailingZeros", "(I)I"⟩
abbrev yN18 : MethodName := ⟨"com/example/charkha/charkha/Wheels", "slotTick", "(II)J"⟩
abbrev yN19 : MethodName := ⟨"java/lang/Math", "min", "(JJ)J"⟩
abbrev yN20 : MethodName := ⟨"com/example/charkha/charkha/WheelsNextEventPinLaw", "eventOf", "(JJI)J"⟩
abbrev yN21 : MethodName := ⟨"com/example/charkha/charkha/WheelsNextEventPinLaw", "highBit", "(J)I"⟩
abbrev yN22 : MethodName := ⟨"com/example/charkha/charkha/Wheels", "remove", "(Lcom/example/charkha/charkha/Timeout;)V"⟩
abbrev yN23 : MethodName := ⟨"com/example/charkha/charkha/Wheels", "unlink", "(Lcom/example/charkha/charkha/Timeout;)V"⟩
abbrev yN24 : MethodName := ⟨"com/example/charkha/charkha/Wheels", "clear", "(II)V"⟩
abbrev yN25 : MethodName := ⟨"com/example/charkha/charkha/Wheels", "poll", "(J)Lcom/example/charkha/charkha/Timeout;"⟩
abbrev yN26 : MethodName := ⟨"com/example/charkha/charkha/Wheels", "moveDown", "(II)V"⟩
abbrev yN27 : MethodName := ⟨"com/example/charkha/charkha/Timeout", "isCancelled", "()Z"⟩
abbrev tE (a : Addr) (x0 : Value) (x1 : Value) (x2 : Int64) (x3 : Value) (x4 : Value) (x5 : Int32) : Ent := (a, .inl ("com/example/charkha/charkha/Timeout", [(("com/example/charkha/charkha/Timeout", "timer", "Lcom/example/charkha/charkha/WheelTimer;"), x0), (("com/example/charkha/charkha/Timeout", "task", "Ljava/lang/Runnable;"), x1), (("com/example/charkha/charkha/Timeout", "deadline", "J"), .long x2), (("com/example/charkha/charkha/Timeout", "next", "Lcom/example/charkha/charkha/Timeout;"), x3), (("com/example/charkha/charkha/Timeout", "prev", "Lcom/example/charkha/charkha/Timeout;"), x4), (("com/example/charkha/charkha/Timeout", "state", "I"), .int x5)]))
abbrev wE (a : Addr) (x0 : Addr) (x1 : Int32) (x2 : Int64) (x3 : Int32) (x4 : Addr) (x5 : Addr) (x6 : Addr) (x7 : Int64) (x8 : Int32) : Ent := (a, .inl ("com/example/charkha/charkha/Wheels", [(("com/example/charkha/charkha/Wheels", "removed", "[Lcom/example/charkha/charkha/Timeout;"), .ref x0), (("com/example/charkha/charkha/Wheels", "shift", "I"), .int x1), (("com/example/charkha/charkha/Wheels", "digitMask", "J"), .long x2), (("com/example/charkha/charkha/Wheels", "bits", "I"), .int x3), (("com/example/charkha/charkha/Wheels", "slots", "[[Lcom/example/charkha/charkha/Timeout;"), .ref x4), (("com/example/charkha/charkha/Wheels", "filed", "[[J"), .ref x5), (("com/example/charkha/charkha/Wheels", "filedSlots", "[I"), .ref x6), (("com/example/charkha/charkha/Wheels", "tick", "J"), .long x7), (("com/example/charkha/charkha/Wheels", "removedCount", "I"), .int x8)]))
abbrev aS (a : Addr) (vs : List Value) : Ent := (a, .inr ((.array (.object "com/example/charkha/charkha/Timeout")), vs, true))
abbrev aF (a : Addr) (vs : List Value) : Ent := (a, .inr ((.array .long), vs, true))
abbrev aI (a : Addr) (vs : List Value) : Ent := (a, .inr (.int, vs, true))
abbrev aT (a : Addr) (vs : List Value) : Ent := (a, .inr ((.object "com/example/charkha/charkha/Timeout"), vs, true))
abbrev aJ (a : Addr) (vs : List Value) : Ent := (a, .inr (.long, vs, true))
theorem own_sets {vs : List Value} {j : Nat} {u v : Value} (h : vs[j]? = some u) : (vs.set j v)[j]? = some v := by
  rw [List.getElem?_set_self (List.getElem?_eq_some_iff.mp h).1]
theorem own_setn {vs : List Value} {i j : Nat} {u v : Value} (hn : ¬ i = j) (h : vs[j]? = some u) : (vs.set i v)[j]? = some u := by
  rw [List.getElem?_set_ne hn]; exact h
theorem own_lt {vs : List Value} {j : Nat} {u : Value} (h : vs[j]? = some u) : j < vs.length := (List.getElem?_eq_some_iff.mp h).1
theorem own_repl {n j : Nat} {v : Value} (h : j < n) : (List.replicate n v)[j]? = some v := by simp [h]
theorem own_toN {k : Nat} (h : k < 2147483648) : (Int32.ofNat k).toInt = k := Int32.toInt_ofNat_of_lt (by omega)
theorem own_cl {k : Nat} (h : k < 2147483648) : (Int32.ofNat k).toNatClampNeg = k := by
  show (Int32.ofNat k).toInt.toNat = k
  rw [own_toN h]; exact Int.toNat_natCast k
theorem own_nn {k : Nat} (h : k < 2147483648) : ¬ Int32.ofNat k < 0 := by
  simp only [Int32.lt_iff_toInt_lt, own_toN h, Int32.toInt_zero]; omega
theorem own_us {a : Int32} (h : 0 ≤ a.toInt) {y : Int32} {k : Nat} (hn : (y &&& 31).toUInt32.toNat = k) (hk : k < 32) : (XT.ushr a y).toInt = a.toInt / 2 ^ k := Jvm.Kit.i32_iushr (Jvm.Kit.i32_nonneg.mpr h) hn hk
theorem own_us6 {k : Nat} (h : k < 2147483648) : XT.ushr (Int32.ofNat k) 6 = Int32.ofNat (k / 64) := by
  apply Int32.toInt_inj.mp
  rw [own_us (k := 6) (by rw [own_toN h]; omega) (by decide) (by decide), own_toN h, own_toN (by omega)]
  omega
theorem own_log {n k : Nat} (h1 : 2 ^ k ≤ n) (h2 : n < 2 ^ (k + 1)) : Nat.log2 n = k := (Nat.log2_eq_iff (by have := Nat.two_pow_pos k; omega)).mpr ⟨h1, h2⟩
def own_n32 (a : Int32) : Int32 := if 0 < a then Int32.ofNat (31 - Nat.log2 a.toInt.toNat) else if a = 0 then 32 else 0
theorem own_nleaf {a X : Int32} {N : Int} {s : Nat} (h0 : 0 < a) (hN : a.toInt = N) (hs : s ≤ 30) (hX : X.toInt = N / 2 ^ s) (h1 : 1 ≤ X.toInt) (h4 : X.toInt < 4) {c : Int32} (hc : c.toInt = 31 - s) : c - XT.ushr X 1 = own_n32 a := by
  subst hN
  have ha := Int32.lt_iff_toInt_lt.mp h0
  rw [Int32.toInt_zero] at ha
  obtain ⟨n, hn⟩ := Int.eq_ofNat_of_zero_le (Int.le_of_lt ha)
  have hp := Nat.two_pow_pos s
  have hq : X.toInt = ((n / 2 ^ s : Nat) : Int) := by rw [hX, hn]; simp
  have hu : (XT.ushr X 1).toInt = X.toInt / 2 := by rw [own_us (k := 1) (by omega) (by decide) (by decide)]; simp
  have e0 : own_n32 a = Int32.ofNat (31 - Nat.log2 n) := by unfold own_n32; rw [if_pos h0, hn]; rfl
  rw [e0]
  apply Int32.toInt_inj.mp
  rw [Jvm.Kit.i32_sub (by rw [hc, hu]; omega) (by rw [hc, hu]; omega), hc, hu]
  by_cases h2 : X.toInt < 2
  · have e : n / 2 ^ s = 1 := by omega
    have b1 : 2 ^ s ≤ n := by
      have := Nat.div_mul_le_self n (2 ^ s); rw [e] at this; omega
    have b2 : n < 2 ^ (s + 1) := by
      have := Nat.lt_mul_div_succ n hp; rw [e] at this; rw [Nat.pow_succ]; omega
    rw [own_log b1 b2, own_toN (by omega)]; omega
  · have b1 : 2 ^ (s + 1) ≤ n := by
      have h := Nat.div_mul_le_self n (2 ^ s)
      have : 2 * 2 ^ s ≤ n / 2 ^ s * 2 ^ s := Nat.mul_le_mul_right _ (by omega)
      rw [Nat.pow_succ]; omega
    have b2 : n < 2 ^ (s + 1 + 1) := by
      have h := Nat.lt_mul_div_succ n hp
      have : 2 ^ s * (n / 2 ^ s + 1) ≤ 2 ^ s * 4 := Nat.mul_le_mul_left _ (by omega)
      rw [Nat.pow_succ, Nat.pow_succ]; omega
    rw [own_log b1 b2, own_toN (by omega)]; omega
def own_n64 (a : Int64) : Int32 := if (XT.ushrL a 32).toInt32 = 0 then 32 + own_n32 a.toInt32 else own_n32 (XT.ushrL a 32).toInt32
theorem own_usL {a : Int64} (h : 0 ≤ a.toInt) {y : Int32} {k : Nat} (hn : (y.toInt64.toUInt64 &&& Int64.toUInt64 63).toNat = k) (hk : k < 64) : (XT.ushrL a y).toInt = a.toInt / 2 ^ k := Jvm.Kit.i64_lushr (Jvm.Kit.i64_nonneg.mpr h) hn hk
theorem own_n64_spec {a : Int64} {n : Nat} (hn : a.toInt = n) (h : 0 < n) : own_n64 a = Int32.ofNat (63 - Nat.log2 n) := by
  have hlt : n < 9223372036854775808 := by have := Int64.toInt_lt a; omega
  have hh : (XT.ushrL a 32).toInt = ((n / 4294967296 : Nat) : Int) := by
    rw [own_usL (k := 32) (by omega) (by decide) (by decide), hn]; simp
  have hi : (XT.ushrL a 32).toInt32.toInt = ((n / 4294967296 : Nat) : Int) := by
    rw [Jvm.Kit.i32_of_i64 (by omega) (by omega), hh]
  unfold own_n64
  by_cases q : n / 4294967296 = 0
  · rw [if_pos (Int32.toInt_inj.mp (by rw [hi, q]; rfl))]
    have hl : a.toInt32.toInt = (n : Int).bmod (2 ^ 32) := by rw [Int64.toInt_toInt32, hn]
    by_cases r : n < 2147483648
    · have hl' : a.toInt32.toInt = n := by rw [hl, Jvm.Kit.bmod32 (by omega) (by omega)]
      have e : own_n32 a.toInt32 = Int32.ofNat (31 - Nat.log2 n) := by
        unfold own_n32
        rw [if_pos (Int32.lt_iff_toInt_lt.mpr (by rw [hl', Int32.toInt_zero]; omega)), hl']; rfl
      have hk : Nat.log2 n < 31 := (Nat.log2_lt (by omega)).mpr (by omega)
      rw [e]
      apply Int32.toInt_inj.mp
      have e32 : (32 : Int32).toInt = 32 := rfl
      rw [Jvm.Kit.i32_add (by rw [own_toN (by omega), e32]; omega) (by rw [own_toN (by omega), e32]; omega), own_toN (by omega), own_toN (by omega), e32]; omega
    · have hl' : a.toInt32.toInt = (n : Int) - 4294967296 := by
        rw [hl]
        have : ((n : Int) - 4294967296).bmod (2 ^ 32) = (n : Int) - 4294967296 := Jvm.Kit.bmod32 (by omega) (by omega)
        rw [← this]
        rw [Int.bmod_def, Int.bmod_def]
        have : ((n : Int) - 4294967296) % ((2 ^ 32 : Nat) : Int) = (n : Int) % ((2 ^ 32 : Nat) : Int) := by omega
        rw [this]
      have e : own_n32 a.toInt32 = 0 := by
        unfold own_n32
        rw [if_neg (by rw [Int32.lt_iff_toInt_lt, hl', Int32.toInt_zero]; omega), if_neg (by intro z; rw [z, Int32.toInt_zero] at hl'; omega)]
      have hk : Nat.log2 n = 31 := own_log (by omega) (by omega)
      rw [e, hk]; rfl
  · rw [if_neg (by intro z; rw [z, Int32.toInt_zero] at hi; omega)]
    have e : own_n32 (XT.ushrL a 32).toInt32 = Int32.ofNat (31 - Nat.log2 (n / 4294967296)) := by
      unfold own_n32
      rw [if_pos (Int32.lt_iff_toInt_lt.mpr (by rw [hi, Int32.toInt_zero]; omega)), hi]; rfl
    have k1 := Nat.log2_self_le q
    have k2 := Nat.lt_log2_self (n := n / 4294967296)
    generalize Nat.log2 (n / 4294967296) = k at e k1 k2
    have hk : Nat.log2 n = k + 32 := by
      apply own_log
      · rw [Nat.pow_add]; omega
      · rw [show k + 32 + 1 = (k + 1) + 32 from by omega, Nat.pow_add]; omega
    rw [e, hk]; congr 1; omega
theorem own_or1 {n k : Nat} (h1 : 2 ^ k ≤ n) (h2 : n < 2 ^ (k + 1)) : Nat.log2 (n ||| 1) = k :=
  own_log (Nat.le_trans h1 Nat.left_le_or) (Nat.or_lt_two_pow h2 (Nat.one_lt_two_pow (by omega)))
theorem own_toI64 {a : Int64} {n : Nat} (h : a.toInt = n) : a.toBitVec.toNat = n := by
  have h1 : a.toBitVec.toInt = n := h
  have hlt := a.toBitVec.isLt
  rw [BitVec.toInt_eq_toNat_cond] at h1
  split at h1 <;> omega
theorem own_ofBv {a : Int64} {n : Nat} (h : a.toBitVec.toNat = n) (hn : n < 9223372036854775808) : a.toInt = n := by
  show a.toBitVec.toInt = n
  rw [BitVec.toInt_eq_toNat_cond, h]
  split <;> omega
def own_lv (sh : Int32) (x : Int64) : Int32 := ((63 : Int32) - own_n64 (x ||| (1 : Int64))) / sh
def own_dg (sh : Int32) (dm D : Int64) (lv : Int32) : Int32 := (XT.ushrL D (lv * sh) &&& dm).toInt32
def own_mi (u v : Int32) : Int32 := if v < u then v else u
def own_mx (u v : Int64) : Int64 := if u < v then v else u
def own_sz (sh bt lv : Int32) : Int32 := (1 : Int32) <<< (own_mi sh (bt - lv * sh) &&& 31)
def Pc (sh : Int32) (dm tk D : Int64) (l d : Nat) : Prop := own_lv sh (D ^^^ tk) = Int32.ofNat l ∧ own_dg sh dm D (Int32.ofNat l) = Int32.ofNat d
theorem own_lv_spec {x : Int64} {n s k : Nat} (hx : x.toInt = n) (h1 : 2 ^ k ≤ n) (h2 : n < 2 ^ (k + 1)) (hk : k ≤ 62) (hs : 1 ≤ s) (hs8 : s ≤ 8) : own_lv (Int32.ofNat s) x = Int32.ofNat (k / s) := by
  have hb : (x ||| (1 : Int64)).toBitVec.toNat = n ||| 1 := by
    rw [Int64.toBitVec_or, BitVec.toNat_or, own_toI64 hx]; rfl
  have hlt : n ||| 1 < 2 ^ (k + 1) := Nat.or_lt_two_pow h2 (Nat.one_lt_two_pow (by omega))
  have hp : 2 ^ (k + 1) ≤ 2 ^ 63 := Nat.pow_le_pow_right (by decide) (by omega)
  have hy : (x ||| (1 : Int64)).toInt = ((n ||| 1 : Nat) : Int) := own_ofBv hb (by omega)
  have hpos : 0 < n ||| 1 := Nat.lt_of_lt_of_le (Nat.two_pow_pos k) (Nat.le_trans h1 Nat.left_le_or)
  unfold own_lv
  rw [own_n64_spec hy hpos, own_or1 h1 h2]
  have e63 : (63 : Int32).toInt = 63 := rfl
  have hq : (63 : Int32) - Int32.ofNat (63 - k) = Int32.ofNat k := by
    apply Int32.toInt_inj.mp
    rw [Jvm.Kit.i32_sub (by rw [own_toN (by omega), e63]; omega) (by rw [own_toN (by omega), e63]; omega), own_toN (by omega), own_toN (by omega), e63]; omega
  rw [hq]
  apply Int32.toInt_inj.mp
  have hd := Nat.div_le_self k s
  rw [Jvm.Kit.i32_div (by rw [own_toN (by omega), own_toN (by omega)]; omega), own_toN (by omega), own_toN (by omega), own_toN (by omega)]
  rw [Int.tdiv_eq_ediv_of_nonneg (by omega)]; simp
theorem own_sh64 : ∀ m : Fin 64, ((Int32.ofNat m.1).toInt64.toUInt64 &&& Int64.toUInt64 63).toNat = m.1 := by decide +kernel
theorem own_dg_spec {D dm : Int64} {n s l : Nat} (hD : D.toInt = n) (hs : 1 ≤ s) (hs8 : s ≤ 8) (hdm : dm.toBitVec.toNat = 2 ^ s - 1) (hl : l * s ≤ 62) (hn : n / 2 ^ (l * s) < 2 ^ s) : own_dg (Int32.ofNat s) dm D (Int32.ofNat l) = Int32.ofNat (n / 2 ^ (l * s)) := by
  unfold own_dg
  have hp : 2 ^ s ≤ 2 ^ 8 := Nat.pow_le_pow_right (by decide) hs8
  rw [← Int32.ofNat_mul]
  have h1 : (XT.ushrL D (Int32.ofNat (l * s))).toInt = ((n / 2 ^ (l * s) : Nat) : Int) := by
    rw [own_usL (k := l * s) (by omega) (own_sh64 ⟨l * s, by omega⟩) (by omega), hD]; simp
  have h2 : (XT.ushrL D (Int32.ofNat (l * s)) &&& dm).toInt = ((n / 2 ^ (l * s) : Nat) : Int) := by
    rw [Jvm.Kit.i64_mask _ _ (by omega) hdm, h1]
    have : ((n / 2 ^ (l * s) : Nat) : Int) % 2 ^ s = ((n / 2 ^ (l * s) % 2 ^ s : Nat) : Int) := by simp
    rw [this, Nat.mod_eq_of_lt hn]
  generalize n / 2 ^ (l * s) = y at *
  apply Int32.toInt_inj.mp
  rw [Jvm.Kit.i32_of_i64 (by rw [h2]; omega) (by rw [h2]; omega), h2, own_toN (by omega)]
theorem own_shl : ∀ m : Fin 9, (1 : Int32) <<< (Int32.ofNat m.1 &&& 31) = Int32.ofNat (2 ^ m.1) := by decide +kernel
theorem own_sz_spec {s b l : Nat} (hs : 1 ≤ s) (hs8 : s ≤ 8) (hb : b ≤ 63) (hl : l * s < b) : own_sz (Int32.ofNat s) (Int32.ofNat b) (Int32.ofNat l) = Int32.ofNat (2 ^ min s (b - l * s)) := by
  unfold own_sz
  rw [← Int32.ofNat_mul]
  have e : Int32.ofNat b - Int32.ofNat (l * s) = Int32.ofNat (b - l * s) := by
    apply Int32.toInt_inj.mp
    rw [Jvm.Kit.i32_sub (by rw [own_toN (by omega), own_toN (by omega)]; omega) (by rw [own_toN (by omega), own_toN (by omega)]; omega), own_toN (by omega), own_toN (by omega), own_toN (by omega)]; omega
  have m : own_mi (Int32.ofNat s) (Int32.ofNat (b - l * s)) = Int32.ofNat (min s (b - l * s)) := by
    unfold own_mi
    have hc : (Int32.ofNat (b - l * s) < Int32.ofNat s) ↔ b - l * s < s := by rw [Int32.lt_iff_toInt_lt, own_toN (by omega), own_toN (by omega)]; omega
    by_cases q : b - l * s < s
    · rw [if_pos (hc.mpr q), Nat.min_eq_right (by omega)]
    · rw [if_neg (fun z => q (hc.mp z)), Nat.min_eq_left (by omega)]
  rw [e, m]
  exact own_shl ⟨min s (b - l * s), by omega⟩
theorem own_wz {z : Nat} (h : z ≤ 256) : XT.ushr (Int32.ofNat z + 63) 6 = Int32.ofNat ((z + 63) / 64) := by
  rw [show (63 : Int32) = Int32.ofNat 63 from rfl, ← Int32.ofNat_add, own_us6 (by omega)]
theorem own_bit1 : ∀ d : Fin 256, ∀ i : Fin 64, ((1 : Int64) <<< ((Int32.ofNat d.1).toInt64 &&& 63)).toBitVec.getLsbD i.1 = decide (i.1 = d.1 % 64) := by decide +kernel
theorem own_allb : ∀ i : Fin 64, (-1 : Int64).toBitVec.getLsbD i.1 = true := by decide +kernel
theorem own_setb {u : Int64} {d i : Nat} (hd : d < 256) (hi : i < 64) : (u ||| ((1 : Int64) <<< ((Int32.ofNat d).toInt64 &&& 63))).toBitVec.getLsbD i = true ↔ u.toBitVec.getLsbD i = true ∨ i = d % 64 := by
  rw [Int64.toBitVec_or, BitVec.getLsbD_or, own_bit1 ⟨d, hd⟩ ⟨i, hi⟩]; simp
theorem own_clrb {u : Int64} {d i : Nat} (hd : d < 256) (hi : i < 64) : (u &&& (((1 : Int64) <<< ((Int32.ofNat d).toInt64 &&& 63)) ^^^ (-1 : Int64))).toBitVec.getLsbD i = true ↔ u.toBitVec.getLsbD i = true ∧ i ≠ d % 64 := by
  rw [Int64.toBitVec_and, Int64.toBitVec_xor, BitVec.getLsbD_and, BitVec.getLsbD_xor, own_bit1 ⟨d, hd⟩ ⟨i, hi⟩, own_allb ⟨i, hi⟩]; simp
def own_upd {α : Type} (f : Nat → α) (i : Nat) (v : α) : Nat → α := fun j => if j = i then v else f j
def own_upd2 {α : Type} (f : Nat → Nat → α) (i k : Nat) (v : α) : Nat → Nat → α := fun j m => if j = i ∧ m = k then v else f j m
theorem own_upd_s {α : Type} {f : Nat → α} {i : Nat} {v : α} : own_upd f i v i = v := if_pos rfl
theorem own_upd_n {α : Type} {f : Nat → α} {i j : Nat} {v : α} (h : j ≠ i) : own_upd f i v j = f j := if_neg h
theorem own_upd2_s {α : Type} {f : Nat → Nat → α} {i k : Nat} {v : α} : own_upd2 f i k v i k = v := if_pos ⟨rfl, rfl⟩
theorem own_upd2_n {α : Type} {f : Nat → Nat → α} {i k j m : Nat} {v : α} (h : ¬ (j = i ∧ m = k)) : own_upd2 f i k v j m = f j m := if_neg h
def own_t3 (a b c : Addr) : Nat → Addr
  | 0 => a
  | 1 => b
  | _ => c
def own_rm (n : Nat) (f : Nat → Value) : List Value := (List.range n).map f
theorem own_rm_get {n j : Nat} {f : Nat → Value} (h : j < n) : (own_rm n f)[j]? = some (f j) := by simp [own_rm, h]
theorem own_rm_len {n : Nat} {f : Nat → Value} : (own_rm n f).length = n := by simp [own_rm]
theorem own_rm_ext {n : Nat} {f g : Nat → Value} (h : ∀ j, j < n → f j = g j) : own_rm n f = own_rm n g := by
  apply List.map_congr_left
  intro j hj
  exact h j (List.mem_range.mp hj)
theorem own_rm_set {n j : Nat} {f g : Nat → Value} {v : Value} (h1 : g j = v) (h2 : ∀ k, k < n → k ≠ j → g k = f k) : (own_rm n f).set j v = own_rm n g := by
  apply List.ext_getElem?
  intro k
  rw [List.getElem?_set, own_rm_len]
  by_cases hk : k < n
  · rw [own_rm_get hk, own_rm_get hk]
    by_cases e : j = k
    · subst e; rw [if_pos rfl, if_pos hk, h1]
    · rw [if_neg e, h2 k hk (fun z => e z.symm)]
  · have a1 : (own_rm n f)[k]? = none := List.getElem?_eq_none_iff.mpr (by rw [own_rm_len]; omega)
    have a2 : (own_rm n g)[k]? = none := List.getElem?_eq_none_iff.mpr (by rw [own_rm_len]; omega)
    rw [a1, a2]
    by_cases e : j = k
    · rw [if_pos e, if_neg (by omega)]
    · rw [if_neg e]
theorem own_rm_rep {n : Nat} {v : Value} : List.replicate n v = own_rm n (fun _ => v) := by
  apply List.ext_getElem?
  intro k
  by_cases hk : k < n
  · rw [own_rm_get hk]; simp [hk]
  · rw [List.getElem?_eq_none_iff.mpr (by simp; omega), List.getElem?_eq_none_iff.mpr (by rw [own_rm_len]; omega)]
/-! permutations -/
theorem own_pa {α : Type} {U Xs X A A' Bf B' : List α} {s f w a b c r : α} (h1 : U.Perm (Xs ++ X)) (h2 : A.Perm (s :: A')) (h3 : Bf.Perm (f :: B')) :
    (U ++ (w :: a :: b :: c :: r :: (A ++ Bf))).Perm (Xs ++ (s :: f :: w :: a :: b :: c :: r :: (X ++ (A' ++ B')))) := by
  classical
  rw [List.perm_iff_count]
  intro x
  have c1 := h1.count_eq x
  have c2 := h2.count_eq x
  have c3 := h3.count_eq x
  simp only [List.count_append, List.count_cons] at *
  omega
theorem own_pb {α : Type} {U Xs X L : List α} {w a b c r : α} (h1 : U.Perm (Xs ++ X)) :
    (U ++ (w :: a :: b :: c :: r :: L)).Perm (Xs ++ (w :: a :: b :: c :: r :: (X ++ L))) := by
  classical
  rw [List.perm_iff_count]
  intro x
  have c1 := h1.count_eq x
  simp only [List.count_append, List.count_cons] at *
  omega
theorem own_pc {α : Type} {U Xs X A Bf : List α} {s f w a b c r : α} (h1 : U.Perm (Xs ++ X)) :
    (f :: s :: (Xs ++ (w :: a :: b :: c :: r :: (X ++ (A ++ Bf))))).Perm (U ++ (w :: a :: b :: c :: r :: ((s :: A) ++ (f :: Bf)))) := by
  classical
  rw [List.perm_iff_count]
  intro x
  have c1 := h1.count_eq x
  simp only [List.count_append, List.count_cons] at *
  omega
theorem own_sp1 {f g : Nat → Ent} {i : Nat} (hi : i < 3) {e : Ent} (he : g i = e) (hfg : ∀ j, j ≠ i → g j = f j) : (List.map g [0, 1, 2]).Perm ([e] ++ ([0, 1, 2].erase i).map f) := by
  have hp : ([0, 1, 2] : List Nat).Perm (i :: [0, 1, 2].erase i) := List.perm_cons_erase (by simp; omega)
  have hm : ([0, 1, 2].erase i).map f = ([0, 1, 2].erase i).map g := by
    apply List.map_congr_left
    intro j hj
    exact (hfg j ((List.Nodup.mem_erase_iff (by decide)).mp hj).1).symm
  rw [hm, ← he]
  exact hp.map g
theorem own_sp2 {f g : Nat → Ent} {i k : Nat} (hi : i < 3) (hk : k < 3) (hik : i ≠ k) {e e' : Ent} (he : g i = e) (he' : g k = e') (hfg : ∀ j, j ≠ i → j ≠ k → g j = f j) : (List.map g [0, 1, 2]).Perm ([e, e'] ++ (([0, 1, 2].erase i).erase k).map f) := by
  have hp : ([0, 1, 2] : List Nat).Perm (i :: [0, 1, 2].erase i) := List.perm_cons_erase (by simp; omega)
  have hk' : k ∈ [0, 1, 2].erase i := (List.Nodup.mem_erase_iff (by decide)).mpr ⟨fun e => hik e.symm, by simp; omega⟩
  have hq : ([0, 1, 2].erase i).Perm (k :: ([0, 1, 2].erase i).erase k) := List.perm_cons_erase hk'
  have hm : (([0, 1, 2].erase i).erase k).map f = (([0, 1, 2].erase i).erase k).map g := by
    apply List.map_congr_left
    intro j hj
    have h1 := (List.Nodup.mem_erase_iff (List.Nodup.erase i (by decide))).mp hj
    exact (hfg j ((List.Nodup.mem_erase_iff (by decide)).mp h1.2).1 h1.1).symm
  rw [hm, ← he, ← he']
  exact (hp.trans (List.Perm.cons i hq)).map g
theorem own_sp3 {f g : Nat → Ent} {i k m : Nat} (h : [i, k, m].Perm [0, 1, 2]) {e e' e'' : Ent} (he : g i = e) (he' : g k = e') (he'' : g m = e'') : (List.map g [0, 1, 2]).Perm ([e, e', e''] ++ []) := by
  rw [← he, ← he', ← he'', List.append_nil]
  exact (h.map g).symm
theorem own_spk {f g : Nat → Ent} {ks : List Nat} {l : Nat} (hn : ks.Nodup) (hl : l ∈ ks) {e : Ent} (he : g l = e) (hfg : ∀ j, j ≠ l → g j = f j) : (ks.map g).Perm (e :: (ks.erase l).map f) := by
  have hm : (ks.erase l).map f = (ks.erase l).map g := by
    apply List.map_congr_left
    intro j hj
    exact (hfg j ((List.Nodup.mem_erase_iff hn).mp hj).1).symm
  rw [hm, ← he]
  exact (List.perm_cons_erase hl).map g
/-! the wheels' state -/
abbrev Bk := Nat × Nat × List Nat
def own_fl (B : List Bk) : List Nat := B.flatMap fun b => b.2.2
def Lk (T : Nat → Addr) (p nx : Nat → Value) : List Nat → Prop
  | [a] => p a = .ref (T a) ∧ nx a = .null
  | [a, b] => p a = .ref (T b) ∧ nx a = .ref (T b) ∧ p b = .ref (T a) ∧ nx b = .null
  | [a, b, c] => p a = .ref (T c) ∧ nx a = .ref (T b) ∧ p b = .ref (T a) ∧ nx b = .ref (T c) ∧ p c = .ref (T b) ∧ nx c = .null
  | _ => False
theorem Lk.congr {T : Nat → Addr} {p nx p' nx' : Nat → Value} {c : List Nat} (h : Lk T p nx c) (hc : ∀ j ∈ c, p' j = p j ∧ nx' j = nx j) : Lk T p' nx' c := by
  match c, h with
  | [a], h =>
    have ha := hc a (by simp)
    exact ⟨ha.1.trans h.1, ha.2.trans h.2⟩
  | [a, b], h =>
    have ha := hc a (by simp)
    have hb := hc b (by simp)
    exact ⟨ha.1.trans h.1, ha.2.trans h.2.1, hb.1.trans h.2.2.1, hb.2.trans h.2.2.2⟩
  | [a, b, c], h =>
    have ha := hc a (by simp)
    have hb := hc b (by simp)
    have hk := hc c (by simp)
    exact ⟨ha.1.trans h.1, ha.2.trans h.2.1, hb.1.trans h.2.2.1, hb.2.trans h.2.2.2.1, hk.1.trans h.2.2.2.2.1, hk.2.trans h.2.2.2.2.2⟩
def BF (T : Nat → Addr) (sh : Int32) (dm tk : Int64) (zs : Nat → Nat) (D : Nat → Int64) (p nx : Nat → Value) (ks : List Nat) (H : Nat → Nat → Value) (b : Bk) : Prop :=
  b.1 ∈ ks ∧ b.2.1 < zs b.1 ∧ (∃ a r, b.2.2 = a :: r ∧ H b.1 b.2.1 = .ref (T a)) ∧ Lk T p nx b.2.2 ∧ ∀ i ∈ b.2.2, Pc sh dm tk (D i) b.1 b.2.1
def InvC (T : Nat → Addr) (sh : Int32) (dm tk : Int64) (n : Nat) (zs : Nat → Nat) (D : Nat → Int64) (p nx : Nat → Value) (B : List Bk) (R : List Nat) (ks : List Nat) (H : Nat → Nat → Value) (W : Nat → Nat → Int64) : Prop :=
  ks.Nodup ∧ (∀ l ∈ ks, l < n) ∧ (∀ l ∈ ks, ∀ w i, i < 64 → ((W l w).toBitVec.getLsbD i = true ↔ H l (64 * w + i) ≠ .null)) ∧ (∀ l ∈ ks, ∀ d, H l d ≠ .null → ∃ c, (l, d, c) ∈ B) ∧
  (∀ b ∈ B, BF T sh dm tk zs D p nx ks H b) ∧ B.Pairwise (fun b b' => ¬ (b.1 = b'.1 ∧ b.2.1 = b'.2.1)) ∧ (own_fl B ++ R).Perm [0, 1, 2]
section InvLemmas
variable {T : Nat → Addr} {sh : Int32} {dm tk : Int64} {n : Nat} {zs : Nat → Nat} {D : Nat → Int64} {p nx p' nx' : Nat → Value} {B : List Bk} {R : List Nat} {ks : List Nat} {H : Nat → Nat → Value} {W : Nat → Nat → Int64} {l d i : Nat} {c c' : List Nat}
theorem own_fl_erase {b : Bk} (hb : b ∈ B) : (own_fl B).Perm (b.2.2 ++ own_fl (B.erase b)) := by
  have := (List.perm_cons_erase hb).flatMap_right (fun b : Bk => b.2.2)
  simpa [own_fl] using this
theorem InvC.nd (h : InvC T sh dm tk n zs D p nx B R ks H W) : (own_fl B ++ R).Nodup := h.2.2.2.2.2.2.nodup_iff.mpr (by decide)
theorem InvC.lt3 (h : InvC T sh dm tk n zs D p nx B R ks H W) (hi : i ∈ own_fl B ++ R) : i < 3 := by
  have := h.2.2.2.2.2.2.subset hi
  simp at this; omega
theorem own_fl_mem {b : Bk} (hb : b ∈ B) (hi : i ∈ b.2.2) : i ∈ own_fl B := List.mem_flatMap.mpr ⟨b, hb, hi⟩
theorem own_pw {b b' : Bk} (h : B.Pairwise (fun b b' => ¬ (b.1 = b'.1 ∧ b.2.1 = b'.2.1))) (hb : b ∈ B) (hb' : b' ∈ B.erase b) : ¬ (b'.1 = b.1 ∧ b'.2.1 = b.2.1) := by
  have hp := List.perm_cons_erase hb
  have := (hp.pairwise_iff (fun {x y} hxy z => hxy ⟨z.1.symm, z.2.symm⟩)).mp h
  intro z
  exact (List.pairwise_cons.mp this).1 b' hb' ⟨z.1.symm, z.2.symm⟩
/-- a slot's key -/
theorem own_key {b b' : Bk} (h : InvC T sh dm tk n zs D p nx B R ks H W) (hb : b ∈ B) (hb' : b' ∈ B) (e1 : b'.1 = b.1) (e2 : b'.2.1 = b.2.1) : b' = b := by
  rcases List.mem_cons.mp ((List.perm_cons_erase hb).subset hb') with e | e
  · exact e
  · exact absurd ⟨e1, e2⟩ (own_pw h.2.2.2.2.2.1 hb e)
theorem own_d64 {d w i : Nat} (hi : i < 64) : 64 * w + i = d ↔ w = d / 64 ∧ i = d % 64 := by omega
theorem InvC.add (h : InvC T sh dm tk n zs D p nx B R ks H W) (hl : l ∈ ks) (hd : d < zs l) (hz : zs l ≤ 256) (hnull : H l d = .null) (hi : i ∈ R) (hP : Pc sh dm tk (D i) l d) :
    InvC T sh dm tk n zs D (own_upd p i (.ref (T i))) (own_upd nx i .null) ((l, d, [i]) :: B) (R.erase i) ks (own_upd2 H l d (.ref (T i))) (own_upd2 W l (d / 64) (W l (d / 64) ||| ((1 : Int64) <<< ((Int32.ofNat d).toInt64 &&& 63)))) := by
  have hnd := h.nd
  have hfr : ∀ j ∈ own_fl B, j ≠ i := fun j hj e => (List.nodup_append.mp hnd).2.2 j hj i hi e
  obtain ⟨h1, h2, h3, h4, h5, h6, h7⟩ := h
  have hne : ∀ b ∈ B, ¬ (b.1 = l ∧ b.2.1 = d) := fun b hb e => by
    obtain ⟨-, -, ⟨a, r, -, ha⟩, -⟩ := h5 b hb
    rw [e.1, e.2, hnull] at ha; cases ha
  refine ⟨h1, h2, fun l' hl' w j hj => ?_, fun l' hl' d' hd' => ?_, fun b hb => ?_, List.pairwise_cons.mpr ⟨fun b hb e => hne b hb ⟨e.1.symm, e.2.symm⟩, h6⟩, ?_⟩
  · by_cases q : l' = l ∧ w = d / 64
    · obtain ⟨rfl, rfl⟩ := q
      rw [own_upd2_s, own_setb (by omega) hj, h3 l' hl' _ j hj]
      by_cases q' : j = d % 64
      · have e : 64 * (d / 64) + j = d := by omega
        rw [e, own_upd2_s]; simp [q']
      · rw [own_upd2_n (by omega)]; simp [q']
    · rw [own_upd2_n q, own_upd2_n (by omega)]
      exact h3 l' hl' w j hj
  · by_cases q : l' = l ∧ d' = d
    · obtain ⟨rfl, rfl⟩ := q
      exact ⟨[i], List.mem_cons_self ..⟩
    · rw [own_upd2_n q] at hd'
      obtain ⟨c, hc⟩ := h4 l' hl' d' hd'
      exact ⟨c, List.mem_cons_of_mem _ hc⟩
  · rcases List.mem_cons.mp hb with rfl | hb
    · refine ⟨hl, hd, ⟨i, [], rfl, own_upd2_s⟩, ⟨own_upd_s, own_upd_s⟩, fun j hj => ?_⟩
      rw [List.mem_singleton.mp hj]; exact hP
    · obtain ⟨g1, g2, ⟨a, r, g3, g4⟩, g5, g6⟩ := h5 b hb
      refine ⟨g1, g2, ⟨a, r, g3, by rw [own_upd2_n (hne b hb)]; exact g4⟩, g5.congr fun j hj => ?_, g6⟩
      have := hfr j (own_fl_mem hb hj)
      exact ⟨own_upd_n this, own_upd_n this⟩
  · show (i :: own_fl B ++ R.erase i).Perm _
    refine List.Perm.trans ?_ h7
    have : (own_fl B ++ R).Perm (own_fl B ++ (i :: R.erase i)) := (List.perm_cons_erase hi).append_left _
    exact (this.trans List.perm_middle).symm
theorem InvC.rep (h : InvC T sh dm tk n zs D p nx B R ks H W) (hb : (l, d, c) ∈ B) {a : Nat} {r R' : List Nat} (hc' : (a :: r ++ R').Perm (c ++ R)) (hL : Lk T p' nx' (a :: r)) (hag : ∀ j, j ∉ c → j ∉ a :: r → p' j = p j ∧ nx' j = nx j) (hP : ∀ j ∈ a :: r, Pc sh dm tk (D j) l d) :
    InvC T sh dm tk n zs D p' nx' ((l, d, a :: r) :: B.erase (l, d, c)) R' ks (own_upd2 H l d (.ref (T a))) W := by
  have hnd := h.nd
  have hpw := fun b' hb' => own_pw (b' := b') h.2.2.2.2.2.1 hb hb'
  obtain ⟨h1, h2, h3, h4, h5, h6, h7⟩ := h
  have hfl := own_fl_erase hb
  have hnew : (a :: r ++ own_fl (B.erase (l, d, c)) ++ R').Perm [0, 1, 2] := by
    refine List.Perm.trans ?_ h7
    classical
    rw [List.perm_iff_count]
    intro x
    have c1 := hc'.count_eq x
    have c2 := hfl.count_eq x
    simp only [List.count_append, List.count_cons] at *
    omega
  have hnd' := hnew.nodup_iff.mpr (by decide)
  have hnl : H l d ≠ .null := by
    obtain ⟨-, -, ⟨a, r, -, ha⟩, -⟩ := h5 _ hb
    rw [show H l d = _ from ha]; simp
  have hO := h5 _ hb
  have hpw' := (List.pairwise_cons.mp (((List.perm_cons_erase hb).pairwise_iff (fun {x y} hxy z => hxy ⟨z.1.symm, z.2.symm⟩)).mp h6)).2
  refine ⟨h1, h2, fun l' hl' w j hj => ?_, fun l' hl' d' hd' => ?_, fun b hb' => ?_, List.pairwise_cons.mpr ⟨fun b hb' e => hpw b hb' ⟨e.1.symm, e.2.symm⟩, hpw'⟩, ?_⟩
  · rw [h3 l' hl' w j hj]
    by_cases q : l' = l ∧ 64 * w + j = d
    · obtain ⟨rfl, q⟩ := q
      rw [q, own_upd2_s]; simp [hnl]
    · rw [own_upd2_n q]
  · by_cases q : l' = l ∧ d' = d
    · obtain ⟨rfl, rfl⟩ := q
      exact ⟨a :: r, List.mem_cons_self ..⟩
    · rw [own_upd2_n q] at hd'
      obtain ⟨e, he⟩ := h4 l' hl' d' hd'
      rcases List.mem_cons.mp ((List.perm_cons_erase hb).subset he) with z | z
      · cases z; exact absurd ⟨rfl, rfl⟩ q
      · exact ⟨e, List.mem_cons_of_mem _ z⟩
  · rcases List.mem_cons.mp hb' with rfl | hb'
    · exact ⟨hO.1, hO.2.1, ⟨a, r, rfl, own_upd2_s⟩, hL, hP⟩
    · obtain ⟨g1, g2, ⟨a', r', g3, g4⟩, g5, g6⟩ := h5 b (List.mem_of_mem_erase hb')
      refine ⟨g1, g2, ⟨a', r', g3, by rw [own_upd2_n (hpw b hb')]; exact g4⟩, g5.congr fun j hj => ?_, g6⟩
      have hj' := own_fl_mem hb' hj
      refine hag j (fun z => ?_) (fun z => ?_)
      · have := (hfl.append_right R).nodup_iff.mp hnd
        exact (List.nodup_append.mp (List.nodup_append.mp this).1).2.2 j z j hj' rfl
      · exact (List.nodup_append.mp (List.nodup_append.mp hnd').1).2.2 j z j hj' rfl
  · exact hnew
theorem InvC.del (h : InvC T sh dm tk n zs D p nx B R ks H W) (hz : ∀ l ∈ ks, zs l ≤ 256) (hb : (l, d, c) ∈ B) (hag : ∀ j, j ∉ c → p' j = p j ∧ nx' j = nx j) :
    InvC T sh dm tk n zs D p' nx' (B.erase (l, d, c)) (c ++ R) ks (own_upd2 H l d .null) (own_upd2 W l (d / 64) (W l (d / 64) &&& (((1 : Int64) <<< ((Int32.ofNat d).toInt64 &&& 63)) ^^^ (-1 : Int64)))) := by
  have hnd := h.nd
  have hpw := fun b' hb' => own_pw (b' := b') h.2.2.2.2.2.1 hb hb'
  obtain ⟨h1, h2, h3, h4, h5, h6, h7⟩ := h
  have hfl := own_fl_erase hb
  have hO := h5 _ hb
  have hd : d < 256 := Nat.lt_of_lt_of_le hO.2.1 (hz _ hO.1)
  have hpw' := (List.pairwise_cons.mp (((List.perm_cons_erase hb).pairwise_iff (fun {x y} hxy z => hxy ⟨z.1.symm, z.2.symm⟩)).mp h6)).2
  refine ⟨h1, h2, fun l' hl' w j hj => ?_, fun l' hl' d' hd' => ?_, fun b hb' => ?_, hpw', ?_⟩
  · by_cases q : l' = l ∧ w = d / 64
    · obtain ⟨rfl, rfl⟩ := q
      rw [own_upd2_s, own_clrb hd hj, h3 l' hl' _ j hj]
      by_cases q' : j = d % 64
      · have e : 64 * (d / 64) + j = d := by omega
        rw [e, own_upd2_s]; simp [q']
      · rw [own_upd2_n (by omega)]; simp [q']
    · rw [own_upd2_n q, own_upd2_n (by omega)]
      exact h3 l' hl' w j hj
  · by_cases q : l' = l ∧ d' = d
    · obtain ⟨rfl, rfl⟩ := q
      rw [own_upd2_s] at hd'; exact absurd rfl hd'
    · rw [own_upd2_n q] at hd'
      obtain ⟨e, he⟩ := h4 l' hl' d' hd'
      rcases List.mem_cons.mp ((List.perm_cons_erase hb).subset he) with z | z
      · cases z; exact absurd ⟨rfl, rfl⟩ q
      · exact ⟨e, z⟩
  · obtain ⟨g1, g2, ⟨a', r', g3, g4⟩, g5, g6⟩ := h5 b (List.mem_of_mem_erase hb')
    refine ⟨g1, g2, ⟨a', r', g3, by rw [own_upd2_n (hpw b hb')]; exact g4⟩, g5.congr fun j hj => ?_, g6⟩
    refine hag j (fun z => ?_)
    have := (hfl.append_right R).nodup_iff.mp hnd
    exact (List.nodup_append.mp (List.nodup_append.mp this).1).2.2 j z j (own_fl_mem hb' hj) rfl
  · refine List.Perm.trans ?_ h7
    classical
    rw [List.perm_iff_count]
    intro x
    have c2 := hfl.count_eq x
    simp only [List.count_append] at *
    omega
theorem InvC.level (h : InvC T sh dm tk n zs D p nx B R ks H W) (hl : l ∉ ks) (hn : l < n) : InvC T sh dm tk n zs D p nx B R (l :: ks) (fun l' d' => if l' = l then .null else H l' d') (fun l' w => if l' = l then 0 else W l' w) := by
  obtain ⟨h1, h2, h3, h4, h5, h6, h7⟩ := h
  refine ⟨List.nodup_cons.mpr ⟨hl, h1⟩, fun l' hl' => ?_, fun l' hl' w j hj => ?_, fun l' hl' d' hd' => ?_, fun b hb => ?_, h6, h7⟩
  · rcases List.mem_cons.mp hl' with rfl | q
    · exact hn
    · exact h2 l' q
  · rcases List.mem_cons.mp hl' with rfl | q
    · simp
    · have : l' ≠ l := fun e => hl (e ▸ q)
      simp only [if_neg this]
      exact h3 l' q w j hj
  · by_cases e : l' = l
    · simp [e] at hd'
    · simp only [if_neg e] at hd'
      exact h4 l' ((List.mem_cons.mp hl').resolve_left e) d' hd'
  · obtain ⟨g1, g2, ⟨a, r, g3, g4⟩, g5, g6⟩ := h5 b hb
    have : b.1 ≠ l := fun e => hl (e ▸ g1)
    exact ⟨List.mem_cons_of_mem _ g1, g2, ⟨a, r, g3, by simp only [if_neg this]; exact g4⟩, g5, g6⟩
theorem InvC.congrD {D' : Nat → Int64} (h : InvC T sh dm tk n zs D p nx B R ks H W) (hD : ∀ j ∈ own_fl B, D' j = D j) : InvC T sh dm tk n zs D' p nx B R ks H W := by
  obtain ⟨h1, h2, h3, h4, h5, h6, h7⟩ := h
  refine ⟨h1, h2, h3, h4, fun b hb => ?_, h6, h7⟩
  obtain ⟨g1, g2, g3, g5, g6⟩ := h5 b hb
  exact ⟨g1, g2, g3, g5, fun i hi => by rw [hD i (own_fl_mem hb hi)]; exact g6 i hi⟩
end InvLemmas
theorem own_perm3 {i a b : Nat} (hi : i < 3) (ha : a < 3) (hb : b < 3) (h1 : i ≠ a) (h2 : i ≠ b) (h3 : a ≠ b) : [i, a, b].Perm [0, 1, 2] := by
  have hi' : i = 0 ∨ i = 1 ∨ i = 2 := by omega
  have ha' : a = 0 ∨ a = 1 ∨ a = 2 := by omega
  have hb' : b = 0 ∨ b = 1 ∨ b = 2 := by omega
  rcases hi' with rfl | rfl | rfl <;> rcases ha' with rfl | rfl | rfl <;> rcases hb' with rfl | rfl | rfl <;> first | omega | decide
abbrev own_tc (T : Nat → Addr) (D : Nat → Int64) (s : Nat → Int32) (p nx : Nat → Value) (i : Nat) : Ent := tE (T i) .null .null (D i) (nx i) (p i) (s i)
abbrev own_ac (sa : Nat → Addr) (zs : Nat → Nat) (H : Nat → Nat → Value) (l : Nat) : Ent := aT (sa l) (own_rm (zs l) (H l))
abbrev own_bc (fa : Nat → Addr) (zs : Nat → Nat) (W : Nat → Nat → Int64) (l : Nat) : Ent := aJ (fa l) (own_rm ((zs l + 63) / 64) fun w => .long (W l w))
def own_ct (B : List Bk) (l : Nat) : Nat := B.countP fun b => b.1 == l
def own_cn (B : List Bk) (l : Nat) : Value := .int (Int32.ofNat (own_ct B l))
abbrev own_rf (ks : List Nat) (sa : Nat → Addr) (l : Nat) : Value := if l ∈ ks then .ref (sa l) else .null
abbrev WM (t0 t1 t2 w sA fA cA rA : Addr) (sh : Int32) (dm : Int64) (bt rc : Int32) (tk : Int64) (rv : List Value) (D : Nat → Int64) (s : Nat → Int32) (p nx : Nat → Value) (vs fs cs : List Value) (LS : List Ent) : List Ent :=
  tE t0 .null .null (D 0) (nx 0) (p 0) (s 0) :: tE t1 .null .null (D 1) (nx 1) (p 1) (s 1) :: tE t2 .null .null (D 2) (nx 2) (p 2) (s 2) :: wE w rA sh dm bt sA fA cA tk rc :: aS sA vs :: aF fA fs :: aI cA cs :: aT rA rv :: LS
def Inv (T : Nat → Addr) (sh : Int32) (dm tk : Int64) (n : Nat) (zs : Nat → Nat) (D : Nat → Int64) (p nx : Nat → Value) (vs fs cs : List Value) (LS : List Ent) (B : List Bk) (R : List Nat) : Prop :=
  ∃ (ks : List Nat) (sa fa : Nat → Addr) (H : Nat → Nat → Value) (W : Nat → Nat → Int64), vs = own_rm n (own_rf ks sa) ∧ fs = own_rm n (own_rf ks fa) ∧ cs = own_rm n (own_cn B) ∧ LS = ks.map (own_ac sa zs H) ++ ks.map (own_bc fa zs W) ∧ InvC T sh dm tk n zs D p nx B R ks H W
def Zs (sh bt : Int32) (n : Nat) (zs : Nat → Nat) : Prop := n ≤ 63 ∧ sh ≠ 0 ∧ ∀ l, l < n → own_sz sh bt (Int32.ofNat l) = Int32.ofNat (zs l) ∧ zs l ≤ 256
section StLemmas
variable {n : Nat} {B : List Bk} {l d : Nat} {c c' : List Nat}
theorem own_ct_cons : own_ct ((l, d, c) :: B) l = own_ct B l + 1 := by simp [own_ct]
theorem own_ct_ne {k : Nat} (h : k ≠ l) : own_ct ((l, d, c) :: B) k = own_ct B k := by
  have : ¬ l = k := fun e => h e.symm
  simp [own_ct, this]
theorem own_ct_perm {B' : List Bk} (h : B.Perm B') (k : Nat) : own_ct B k = own_ct B' k := h.countP_eq _
theorem own_cs_add : (own_rm n (own_cn B)).set l (.int (Int32.ofNat (own_ct B l) + (1 : Int32))) = own_rm n (own_cn ((l, d, c) :: B)) := by
  apply own_rm_set
  · rw [own_cn, own_ct_cons, Int32.ofNat_add]; rfl
  · intro k _ hk
    rw [own_cn, own_ct_ne hk]; rfl
theorem own_cs_del (hb : (l, d, c) ∈ B) : (own_rm n (own_cn B)).set l (.int (Int32.ofNat (own_ct B l) - (1 : Int32))) = own_rm n (own_cn (B.erase (l, d, c))) := by
  have hp := List.perm_cons_erase hb
  apply own_rm_set
  · rw [own_cn, own_ct_perm hp l, own_ct_cons, Int32.ofNat_add]
    congr 1
    exact (Int32.add_sub_cancel _ _).symm
  · intro k _ hk
    rw [own_cn, own_cn, own_ct_perm hp k, own_ct_ne hk]
theorem own_cs_rep (hb : (l, d, c) ∈ B) : own_rm n (own_cn B) = own_rm n (own_cn ((l, d, c') :: B.erase (l, d, c))) := by
  apply own_rm_ext
  intro k _
  rw [own_cn, own_cn, own_ct_perm (List.perm_cons_erase hb) k]
  by_cases h : k = l
  · subst h; rw [own_ct_cons, own_ct_cons]
  · rw [own_ct_ne h, own_ct_ne h]
theorem own_upd2_id {α : Type} {f : Nat → Nat → α} {i k : Nat} {v : α} (h : f i k = v) : own_upd2 f i k v = f := by
  funext a b
  by_cases q : a = i ∧ b = k
  · rw [q.1, q.2, own_upd2_s, h]
  · rw [own_upd2_n q]
theorem own_acS {sa : Nat → Addr} {zs : Nat → Nat} {H : Nat → Nat → Value} {v : Value} (hd : d < 2147483648) : own_ac sa zs (own_upd2 H l d v) l = aT (sa l) ((own_rm (zs l) (H l)).set (Int32.ofNat d).toNatClampNeg v) := by
  rw [own_cl hd, own_rm_set (g := own_upd2 H l d v l) own_upd2_s (fun k _ hk => own_upd2_n (fun z => hk z.2))]
theorem own_acN {sa : Nat → Addr} {zs : Nat → Nat} {H : Nat → Nat → Value} {v : Value} {j : Nat} (hj : j ≠ l) : own_ac sa zs (own_upd2 H l d v) j = own_ac sa zs H j := by
  show aT _ _ = aT _ _
  rw [own_rm_ext (f := own_upd2 H l d v j) (g := H j) (fun k _ => own_upd2_n (fun z => hj z.1))]
theorem own_bcS {fa : Nat → Addr} {zs : Nat → Nat} {W : Nat → Nat → Int64} {v : Int64} (hd : d < 2147483648) : own_bc fa zs (own_upd2 W l d v) l = aJ (fa l) ((own_rm ((zs l + 63) / 64) fun w => .long (W l w)).set (Int32.ofNat d).toNatClampNeg (.long v)) := by
  rw [own_cl hd, own_rm_set (g := fun w => .long (own_upd2 W l d v l w)) (congrArg Value.long own_upd2_s) (fun k _ hk => congrArg Value.long (own_upd2_n (fun z => hk z.2)))]
theorem own_bcN {fa : Nat → Addr} {zs : Nat → Nat} {W : Nat → Nat → Int64} {v : Int64} {j : Nat} (hj : j ≠ l) : own_bc fa zs (own_upd2 W l d v) j = own_bc fa zs W j := by
  show aJ _ _ = aJ _ _
  rw [own_rm_ext (f := fun w => .long (own_upd2 W l d v j w)) (g := fun w => .long (W j w)) (fun k _ => congrArg Value.long (own_upd2_n (fun z => hj z.1)))]
end StLemmas
/-! ticks: levels, digits, events -/
def own_lvl (s t D : Nat) : Nat := Nat.log2 ((D ^^^ t) ||| 1) / s
def own_ev (s l D : Nat) : Nat := D / 2 ^ (l * s) * 2 ^ (l * s)
theorem own_xor0 {a b : Nat} : a ^^^ b = 0 ↔ a = b := by
  constructor
  · intro h
    have h1 : a ^^^ b ^^^ b = 0 ^^^ b := by rw [h]
    rw [Nat.xor_assoc, Nat.xor_self, Nat.xor_zero, Nat.zero_xor] at h1
    exact h1
  · intro h
    rw [h, Nat.xor_self]
theorem own_lvl_le {s t D l : Nat} (hs : 1 ≤ s) : own_lvl s t D ≤ l ↔ D / 2 ^ ((l + 1) * s) = t / 2 ^ ((l + 1) * s) := by
  have hp : 0 < (l + 1) * s := Nat.mul_pos (by omega) hs
  have hor : ((D ^^^ t) ||| 1) ≠ 0 := fun h => by
    have := Nat.right_le_or (n := D ^^^ t) (m := 1)
    omega
  have h1 : own_lvl s t D ≤ l ↔ Nat.log2 ((D ^^^ t) ||| 1) < (l + 1) * s := by
    unfold own_lvl
    rw [← Nat.lt_succ_iff]
    exact Nat.div_lt_iff_lt_mul hs
  have h2 : ((D ^^^ t) ||| 1) < 2 ^ ((l + 1) * s) ↔ (D ^^^ t) < 2 ^ ((l + 1) * s) := ⟨fun h => Nat.lt_of_le_of_lt Nat.left_le_or h, fun h => Nat.or_lt_two_pow h (Nat.one_lt_two_pow (by omega))⟩
  rw [h1, Nat.log2_lt hor, h2, ← own_xor0, ← Nat.shiftRight_eq_div_pow, ← Nat.shiftRight_eq_div_pow, ← Nat.shiftRight_xor_distrib, Nat.shiftRight_eq_div_pow, Nat.div_eq_zero_iff_lt (Nat.two_pow_pos _)]
theorem own_lvl_eq {s t D l : Nat} (hs : 1 ≤ s) : own_lvl s t D = l ↔ D / 2 ^ ((l + 1) * s) = t / 2 ^ ((l + 1) * s) ∧ (l = 0 ∨ D / 2 ^ (l * s) ≠ t / 2 ^ (l * s)) := by
  rw [← own_lvl_le hs]
  cases l with
  | zero => simp
  | succ l =>
    rw [Ne, ← own_lvl_le hs]
    omega
theorem own_qmono {s m m' a b : Nat} (hm : m ≤ m') (h : a / 2 ^ (m * s) = b / 2 ^ (m * s)) : a / 2 ^ (m' * s) = b / 2 ^ (m' * s) := by
  obtain ⟨k, rfl⟩ := Nat.exists_eq_add_of_le hm
  rw [Nat.add_mul, Nat.pow_add, ← Nat.div_div_eq_div_mul, ← Nat.div_div_eq_div_mul, h]
theorem own_qsand {q a b c : Nat} (h1 : a ≤ b) (h2 : b ≤ c) (h : a / q = c / q) : b / q = a / q :=
  Nat.le_antisymm (h ▸ Nat.div_le_div_right h2) (Nat.div_le_div_right h1)
theorem own_evq {s l D : Nat} : own_ev s l D / 2 ^ (l * s) = D / 2 ^ (l * s) := Nat.mul_div_cancel _ (Nat.two_pow_pos _)
theorem own_ev_le {s l D : Nat} : own_ev s l D ≤ D := Nat.div_mul_le_self _ _
theorem own_lvl_mono {s t D0 D : Nat} (hs : 1 ≤ s) (h1 : t ≤ D0) (h2 : D0 ≤ D) : own_lvl s t D0 ≤ own_lvl s t D := by
  rw [own_lvl_le hs]
  have h := (own_lvl_le (s := s) (t := t) (D := D) hs).mp (Nat.le_refl _)
  exact own_qsand h1 h2 h.symm
/-- the current tick goes to the event of the least deadline: whoever waits elsewhere stays where he is -/
theorem own_keep {s t D0 D : Nat} (hs : 1 ≤ s) (h1 : t ≤ D0) (h2 : D0 ≤ D) (hne : own_lvl s t D ≠ own_lvl s t D0 ∨ D / 2 ^ (own_lvl s t D0 * s) ≠ D0 / 2 ^ (own_lvl s t D0 * s)) : own_lvl s (own_ev s (own_lvl s t D0) D0) D = own_lvl s t D := by
  have hm := own_lvl_mono hs h1 h2
  have a0 := (own_lvl_eq (s := s) (t := t) (D := D0) hs).mp rfl
  have a1 := (own_lvl_eq (s := s) (t := t) (D := D) hs).mp rfl
  generalize own_lvl s t D0 = l0 at *
  generalize own_lvl s t D = l at *
  rw [own_lvl_eq hs]
  have e0 : ∀ m, l0 ≤ m → own_ev s l0 D0 / 2 ^ (m * s) = D0 / 2 ^ (m * s) := fun m hm => own_qmono hm own_evq
  refine ⟨?_, ?_⟩
  · rw [e0 (l + 1) (by omega), a1.1]
    exact (own_qmono (by omega) a0.1).symm
  · by_cases hl : l = l0
    · subst hl
      right
      rw [e0 l (Nat.le_refl _)]
      exact hne.resolve_left (fun h => h rfl)
    · right
      rw [e0 l hm, own_qmono (s := s) (show l0 + 1 ≤ l by omega) a0.1]
      exact a1.2.resolve_left (by omega)
theorem own_down {s t D0 D : Nat} (hs : 1 ≤ s) (h0 : 0 < own_lvl s t D0) (he : D / 2 ^ (own_lvl s t D0 * s) = D0 / 2 ^ (own_lvl s t D0 * s)) : own_lvl s (own_ev s (own_lvl s t D0) D0) D < own_lvl s t D0 := by
  generalize own_lvl s t D0 = l0 at *
  obtain ⟨k, rfl⟩ : ∃ k, l0 = k + 1 := ⟨l0 - 1, by omega⟩
  rw [Nat.lt_succ_iff, own_lvl_le hs, own_evq, he]
theorem own_jump {s t g D : Nat} (hs : 1 ≤ s) (h1 : t ≤ g) (h2 : g < own_ev s (own_lvl s t D) D) : own_lvl s g D = own_lvl s t D := by
  have a1 := (own_lvl_eq (s := s) (t := t) (D := D) hs).mp rfl
  generalize own_lvl s t D = l at *
  have hD : own_ev s l D ≤ D := own_ev_le
  rw [own_lvl_eq hs]
  refine ⟨?_, ?_⟩
  · rw [own_qsand h1 (show g ≤ D by omega) a1.1.symm]; exact a1.1
  · right
    intro h
    have : own_ev s l D ≤ g := by
      unfold own_ev; rw [h]; exact Nat.div_mul_le_self _ _
    omega
theorem own_evmin {s t D0 D : Nat} (hs : 1 ≤ s) (h1 : t ≤ D0) (h2 : D0 ≤ D) : own_ev s (own_lvl s t D0) D0 ≤ own_ev s (own_lvl s t D) D := by
  have hm := own_lvl_mono hs h1 h2
  have a0 := (own_lvl_eq (s := s) (t := t) (D := D0) hs).mp rfl
  have a1 := (own_lvl_eq (s := s) (t := t) (D := D) hs).mp rfl
  generalize own_lvl s t D0 = l0 at *
  generalize own_lvl s t D = l at *
  by_cases hl : l = l0
  · subst hl
    exact Nat.mul_le_mul_right _ (Nat.div_le_div_right h2)
  · have e : D0 / 2 ^ (l * s) = t / 2 ^ (l * s) := own_qmono (show l0 + 1 ≤ l by omega) a0.1
    have h3 := a1.2.resolve_left (by omega)
    have h4 : D0 / 2 ^ (l * s) ≤ D / 2 ^ (l * s) := Nat.div_le_div_right h2
    have h5 : D0 / 2 ^ (l * s) + 1 ≤ D / 2 ^ (l * s) := by omega
    have h6 := Nat.mul_le_mul_right (2 ^ (l * s)) h5
    have h7 := Nat.lt_mul_div_succ D0 (Nat.two_pow_pos (l * s))
    have h8 : own_ev s l0 D0 ≤ D0 := own_ev_le
    rw [Nat.mul_comm] at h7
    unfold own_ev at *
    omega
theorem own_lv_spec2 {x : Int64} {n s : Nat} (hx : x.toInt = n) (hs : 1 ≤ s) (hs8 : s ≤ 8) : own_lv (Int32.ofNat s) x = Int32.ofNat (Nat.log2 (n ||| 1) / s) ∧ Nat.log2 (n ||| 1) ≤ 62 := by
  have hn : n < 9223372036854775808 := by have := Int64.toInt_lt x; omega
  have hb : (x ||| (1 : Int64)).toBitVec.toNat = n ||| 1 := by
    rw [Int64.toBitVec_or, BitVec.toNat_or, own_toI64 hx]; rfl
  have hlt : n ||| 1 < 2 ^ 63 := Nat.or_lt_two_pow (by omega) (by decide)
  have hy : (x ||| (1 : Int64)).toInt = ((n ||| 1 : Nat) : Int) := own_ofBv hb (by omega)
  have hpos : 0 < n ||| 1 := by have := Nat.right_le_or (n := n) (m := 1); omega
  have hk : Nat.log2 (n ||| 1) ≤ 62 := Nat.lt_succ_iff.mp ((Nat.log2_lt (by omega)).mpr hlt)
  refine ⟨?_, hk⟩
  unfold own_lv
  rw [own_n64_spec hy hpos]
  generalize Nat.log2 (n ||| 1) = k at *
  have e63 : (63 : Int32).toInt = 63 := rfl
  have hq : (63 : Int32) - Int32.ofNat (63 - k) = Int32.ofNat k := by
    apply Int32.toInt_inj.mp
    rw [Jvm.Kit.i32_sub (by rw [own_toN (by omega), e63]; omega) (by rw [own_toN (by omega), e63]; omega), own_toN (by omega), own_toN (by omega), e63]; omega
  rw [hq]
  apply Int32.toInt_inj.mp
  have hd := Nat.div_le_self k s
  rw [Jvm.Kit.i32_div (by rw [own_toN (by omega), own_toN (by omega)]; omega), own_toN (by omega), own_toN (by omega), own_toN (by omega)]
  rw [Int.tdiv_eq_ediv_of_nonneg (by omega)]; simp
theorem own_dg_spec2 {D dm : Int64} {n s l : Nat} (hD : D.toInt = n) (hs8 : s ≤ 8) (hdm : dm.toBitVec.toNat = 2 ^ s - 1) (hl : l * s ≤ 62) : own_dg (Int32.ofNat s) dm D (Int32.ofNat l) = Int32.ofNat (n / 2 ^ (l * s) % 2 ^ s) := by
  unfold own_dg
  have hp : 2 ^ s ≤ 2 ^ 8 := Nat.pow_le_pow_right (by decide) hs8
  have hm : n / 2 ^ (l * s) % 2 ^ s < 2 ^ s := Nat.mod_lt _ (Nat.two_pow_pos s)
  rw [← Int32.ofNat_mul]
  have h1 : (XT.ushrL D (Int32.ofNat (l * s))).toInt = ((n / 2 ^ (l * s) : Nat) : Int) := by
    rw [own_usL (k := l * s) (by omega) (own_sh64 ⟨l * s, by omega⟩) (by omega), hD]; simp
  have h2 : (XT.ushrL D (Int32.ofNat (l * s)) &&& dm).toInt = ((n / 2 ^ (l * s) % 2 ^ s : Nat) : Int) := by
    rw [Jvm.Kit.i64_mask _ _ (by omega) hdm, h1]; simp
  generalize n / 2 ^ (l * s) % 2 ^ s = y at *
  apply Int32.toInt_inj.mp
  rw [Jvm.Kit.i32_of_i64 (by rw [h2]; omega) (by rw [h2]; omega), h2, own_toN (by omega)]
theorem own_xorI {D tk : Int64} {d t : Nat} (hD : D.toInt = d) (ht : tk.toInt = t) : (D ^^^ tk).toInt = ((d ^^^ t : Nat) : Int) := by
  have h1 : d < 2 ^ 63 := by have := Int64.toInt_lt D; omega
  have h2 : t < 2 ^ 63 := by have := Int64.toInt_lt tk; omega
  have h3 : d ^^^ t < 2 ^ 63 := Nat.xor_lt_two_pow h1 h2
  exact own_ofBv (by rw [Int64.toBitVec_xor, BitVec.toNat_xor, own_toI64 hD, own_toI64 ht]) (by omega)
theorem own_lvl_s {s t D : Nat} : own_lvl s t D * s ≤ Nat.log2 ((D ^^^ t) ||| 1) := Nat.div_mul_le_self _ _
theorem own_Pc2 {D tk dm : Int64} {d t s : Nat} (hD : D.toInt = d) (ht : tk.toInt = t) (hs : 1 ≤ s) (hs8 : s ≤ 8) (hdm : dm.toBitVec.toNat = 2 ^ s - 1) : Pc (Int32.ofNat s) dm tk D (own_lvl s t d) (d / 2 ^ (own_lvl s t d * s) % 2 ^ s) := by
  have h1 := own_lv_spec2 (own_xorI hD ht) hs hs8
  exact ⟨h1.1, own_dg_spec2 hD hs8 hdm (Nat.le_trans own_lvl_s h1.2)⟩
theorem own_ofinj {a b : Nat} (ha : a < 2147483648) (hb : b < 2147483648) (h : Int32.ofNat a = Int32.ofNat b) : a = b := by
  have := congrArg Int32.toInt h
  rw [own_toN ha, own_toN hb] at this
  omega
theorem own_Pc_inj {D tk dm : Int64} {d t s l g : Nat} (hD : D.toInt = d) (ht : tk.toInt = t) (hs : 1 ≤ s) (hs8 : s ≤ 8) (hdm : dm.toBitVec.toNat = 2 ^ s - 1) (hl : l < 2147483648) (hg : g < 2147483648) (h : Pc (Int32.ofNat s) dm tk D l g) : l = own_lvl s t d ∧ g = d / 2 ^ (l * s) % 2 ^ s := by
  have h2 := own_Pc2 hD ht hs hs8 hdm
  have h3 := own_lv_spec2 (own_xorI hD ht) hs hs8
  have hb : own_lvl s t d ≤ 62 := by
    have : own_lvl s t d ≤ Nat.log2 ((d ^^^ t) ||| 1) := Nat.div_le_self _ _
    omega
  have e : l = own_lvl s t d := own_ofinj hl (by omega) (h.1.symm.trans h2.1)
  subst e
  refine ⟨rfl, own_ofinj hg ?_ (h.2.symm.trans h2.2)⟩
  have hp : 2 ^ s ≤ 2 ^ 8 := Nat.pow_le_pow_right (by decide) hs8
  have := Nat.mod_lt (d / 2 ^ (own_lvl s t d * s)) (Nat.two_pow_pos s)
  omega
/-! the tick of a slot -/
def own_stk (sh : Int32) (tk : Int64) (lv dg : Int32) : Int64 := (if ((lv + (1 : Int32)) * sh) < (64 : Int32) then (XT.ushrL tk ((lv + (1 : Int32)) * sh)) <<< (((lv + (1 : Int32)) * sh).toInt64 &&& 63) else (0 : Int64)) ||| (dg.toInt64 <<< ((lv * sh).toInt64 &&& 63))
theorem own_sm64 : ∀ m : Fin 64, (((Int32.ofNat m.1).toInt64 &&& 63).toBitVec.smod 64).toNat = m.1 := by decide +kernel
theorem own_i64 {n : Nat} (h : n < 2147483648) : (Int32.ofNat n).toInt64.toInt = n := by rw [Jvm.Kit.i64_of_i32, own_toN h]
theorem own_stk_spec {tk : Int64} {t s l d q : Nat} (ht : tk.toInt = t) (hs : 1 ≤ s) (hs8 : s ≤ 8) (hl : l * s ≤ 62) (hd : d < 2 ^ s) (hq : t / 2 ^ ((l + 1) * s) = q) (hsum : q * 2 ^ ((l + 1) * s) + d * 2 ^ (l * s) < 2 ^ 63) : (own_stk (Int32.ofNat s) tk (Int32.ofNat l) (Int32.ofNat d)).toInt = ((q * 2 ^ ((l + 1) * s) + d * 2 ^ (l * s) : Nat) : Int) := by
  have hp : 2 ^ s ≤ 2 ^ 8 := Nat.pow_le_pow_right (by decide) hs8
  have hls : (l + 1) * s = l * s + s := Nat.succ_mul l s
  have e1 : (Int32.ofNat l + (1 : Int32)) * Int32.ofNat s = Int32.ofNat ((l + 1) * s) := by
    rw [Int32.ofNat_mul, Int32.ofNat_add]; rfl
  have e2 : Int32.ofNat l * Int32.ofNat s = Int32.ofNat (l * s) := (Int32.ofNat_mul ..).symm
  have hlow : d * 2 ^ (l * s) < 2 ^ ((l + 1) * s) := by
    rw [hls, Nat.pow_add, Nat.mul_comm]
    exact Nat.mul_lt_mul_of_pos_left hd (Nat.two_pow_pos _)
  have hB : ((Int32.ofNat d).toInt64 <<< ((Int32.ofNat (l * s)).toInt64 &&& 63)).toInt = ((d * 2 ^ (l * s) : Nat) : Int) := by
    have hdI := own_i64 (n := d) (by omega)
    have hc : ((d * 2 ^ (l * s) : Nat) : Int) = (d : Int) * 2 ^ (l * s) := by simp
    rw [Jvm.Kit.i64_shl _ _ (own_sm64 ⟨l * s, by omega⟩) (by rw [hdI, ← hc]; omega) (by rw [hdI, ← hc]; omega), hdI, hc]
  unfold own_stk
  rw [e1, e2]
  by_cases h64 : (l + 1) * s < 64
  · have hc : Int32.ofNat ((l + 1) * s) < (64 : Int32) := by
      rw [Int32.lt_iff_toInt_lt, own_toN (by omega), show (64 : Int32).toInt = 64 from rfl]; omega
    rw [if_pos hc]
    have hu : (XT.ushrL tk (Int32.ofNat ((l + 1) * s))).toInt = (q : Int) := by
      rw [own_usL (k := (l + 1) * s) (by omega) (own_sh64 ⟨(l + 1) * s, h64⟩) h64, ht, ← hq]; simp
    have hcc : ((q * 2 ^ ((l + 1) * s) : Nat) : Int) = (q : Int) * 2 ^ ((l + 1) * s) := by simp
    have hA : ((XT.ushrL tk (Int32.ofNat ((l + 1) * s))) <<< ((Int32.ofNat ((l + 1) * s)).toInt64 &&& 63)).toInt = ((q * 2 ^ ((l + 1) * s) : Nat) : Int) := by
      rw [Jvm.Kit.i64_shl _ _ (own_sm64 ⟨(l + 1) * s, h64⟩) (by rw [hu, ← hcc]; omega) (by rw [hu, ← hcc]; omega), hu, hcc]
    refine own_ofBv ?_ (by omega)
    rw [Int64.toBitVec_or, BitVec.toNat_or, own_toI64 hA, own_toI64 hB]
    have := Nat.shiftLeft_add_eq_or_of_lt hlow q
    rw [Nat.shiftLeft_eq] at this
    exact this.symm
  · have hc : ¬ Int32.ofNat ((l + 1) * s) < (64 : Int32) := by
      rw [Int32.lt_iff_toInt_lt, own_toN (by omega), show (64 : Int32).toInt = 64 from rfl]; omega
    rw [if_neg hc]
    have hq0 : q = 0 := by
      rw [← hq]
      apply Nat.div_eq_of_lt
      have := Int64.toInt_lt tk
      have h1 : t < 2 ^ 63 := by omega
      exact Nat.lt_of_lt_of_le h1 (Nat.pow_le_pow_right (by decide) (by omega))
    subst hq0
    refine own_ofBv ?_ (by omega)
    rw [Int64.toBitVec_or, BitVec.toNat_or, own_toI64 hB]
    simp
theorem own_evsplit {s t D l : Nat} (h : D / 2 ^ ((l + 1) * s) = t / 2 ^ ((l + 1) * s)) : t / 2 ^ ((l + 1) * s) * 2 ^ ((l + 1) * s) + D / 2 ^ (l * s) % 2 ^ s * 2 ^ (l * s) = own_ev s l D := by
  have hls : (l + 1) * s = l * s + s := Nat.succ_mul l s
  rw [← h, hls, Nat.pow_add, ← Nat.div_div_eq_div_mul, own_ev]
  generalize D / 2 ^ (l * s) = x
  have := Nat.div_add_mod x (2 ^ s)
  calc x / 2 ^ s * (2 ^ (l * s) * 2 ^ s) + x % 2 ^ s * 2 ^ (l * s) = (2 ^ s * (x / 2 ^ s) + x % 2 ^ s) * 2 ^ (l * s) := by
        rw [Nat.add_mul]; congr 1
        rw [Nat.mul_comm (2 ^ (l * s)) (2 ^ s), ← Nat.mul_assoc, Nat.mul_comm (x / 2 ^ s) (2 ^ s)]
    _ = x * 2 ^ (l * s) := by rw [this]
def InvK (T : Nat → Addr) (sh : Int32) (dm tk : Int64) (n : Nat) (zs : Nat → Nat) (D : Nat → Int64) (p nx : Nat → Value) (vs fs cs : List Value) (LS : List Ent) (B : List Bk) (R ks : List Nat) : Prop :=
  ∃ (sa fa : Nat → Addr) (H : Nat → Nat → Value) (W : Nat → Nat → Int64), vs = own_rm n (own_rf ks sa) ∧ fs = own_rm n (own_rf ks fa) ∧ cs = own_rm n (own_cn B) ∧ LS = ks.map (own_ac sa zs H) ++ ks.map (own_bc fa zs W) ∧ InvC T sh dm tk n zs D p nx B R ks H W
def own_fc (ks : List Nat) (l : Nat) : Nat := if l ∈ ks then 0 else 2
def own_cost (zs : Nat → Nat) (l : Nat) : Nat := zs l + (zs l + 63) / 64
def own_fz (zs : Nat → Nat) (ks : List Nat) (l : Nat) : Nat := if l ∈ ks then 0 else own_cost zs l
def own_ins (ks : List Nat) (l : Nat) : List Nat := if l ∈ ks then ks else l :: ks
theorem d0_0 : decode jdk_33_method_47_code 0 = .ok (.iload_n 0, 1) := by decide +kernel
theorem d0_1 : decode jdk_33_method_47_code 1 = .ok (.ifCond .gt 14, 3) := by decide +kernel
theorem d0_15 : decode jdk_33_method_47_code 15 = .ok (.bipush 31, 2) := by decide +kernel
theorem d0_17 : decode jdk_33_method_47_code 17 = .ok (.istore_n 1, 1) := by decide +kernel
theorem d0_18 : decode jdk_33_method_47_code 18 = .ok (.iload_n 0, 1) := by decide +kernel
theorem d0_19 : decode jdk_33_method_47_code 19 = .ok (.ldc_w 264, 3) := by decide +kernel
theorem d0_22 : decode jdk_33_method_47_code 22 = .ok (.if_icmp .lt 11, 3) := by decide +kernel
theorem d0_33 : decode jdk_33_method_47_code 33 = .ok (.iload_n 0, 1) := by decide +kernel
theorem d0_34 : decode jdk_33_method_47_code 34 = .ok (.sipush 256, 3) := by decide +kernel
theorem d0_37 : decode jdk_33_method_47_code 37 = .ok (.if_icmp .lt 11, 3) := by decide +kernel
theorem d0_48 : decode jdk_33_method_47_code 48 = .ok (.iload_n 0, 1) := by decide +kernel
theorem d0_49 : decode jdk_33_method_47_code 49 = .ok (.bipush 16, 2) := by decide +kernel
theorem d0_51 : decode jdk_33_method_47_code 51 = .ok (.if_icmp .lt 10, 3) := by decide +kernel
theorem d0_61 : decode jdk_33_method_47_code 61 = .ok (.iload_n 0, 1) := by decide +kernel
theorem d0_62 : decode jdk_33_method_47_code 62 = .ok (.iconst 4, 1) := by decide +kernel
theorem d0_63 : decode jdk_33_method_47_code 63 = .ok (.if_icmp .lt 10, 3) := by decide +kernel
theorem d0_73 : decode jdk_33_method_47_code 73 = .ok (.iload_n 1, 1) := by decide +kernel
theorem d0_74 : decode jdk_33_method_47_code 74 = .ok (.iload_n 0, 1) := by decide +kernel
theorem d0_75 : decode jdk_33_method_47_code 75 = .ok (.iconst 1, 1) := by decide +kernel
theorem d0_76 : decode jdk_33_method_47_code 76 = .ok (.iushr, 1) := by decide +kernel
theorem d0_77 : decode jdk_33_method_47_code 77 = .ok (.isub, 1) := by decide +kernel
theorem d0_78 : decode jdk_33_method_47_code 78 = .ok (.ireturn, 1) := by decide +kernel
theorem d0_66 : decode jdk_33_method_47_code 66 = .ok (.iinc 1 (-2), 3) := by decide +kernel
theorem d0_69 : decode jdk_33_method_47_code 69 = .ok (.iload_n 0, 1) := by decide +kernel
theorem d0_70 : decode jdk_33_method_47_code 70 = .ok (.iconst 2, 1) := by decide +kernel
theorem d0_71 : decode jdk_33_method_47_code 71 = .ok (.iushr, 1) := by decide +kernel
theorem d0_72 : decode jdk_33_method_47_code 72 = .ok (.istore_n 0, 1) := by decide +kernel
theorem d0_54 : decode jdk_33_method_47_code 54 = .ok (.iinc 1 (-4), 3) := by decide +kernel
theorem d0_57 : decode jdk_33_method_47_code 57 = .ok (.iload_n 0, 1) := by decide +kernel
theorem d0_58 : decode jdk_33_method_47_code 58 = .ok (.iconst 4, 1) := by decide +kernel
theorem d0_59 : decode jdk_33_method_47_code 59 = .ok (.iushr, 1) := by decide +kernel
theorem d0_60 : decode jdk_33_method_47_code 60 = .ok (.istore_n 0, 1) := by decide +kernel
theorem d0_40 : decode jdk_33_method_47_code 40 = .ok (.iinc 1 (-8), 3) := by decide +kernel
theorem d0_43 : decode jdk_33_method_47_code 43 = .ok (.iload_n 0, 1) := by decide +kernel
theorem d0_44 : decode jdk_33_method_47_code 44 = .ok (.bipush 8, 2) := by decide +kernel
theorem d0_46 : decode jdk_33_method_47_code 46 = .ok (.iushr, 1) := by decide +kernel
theorem d0_47 : decode jdk_33_method_47_code 47 = .ok (.istore_n 0, 1) := by decide +kernel
theorem d0_25 : decode jdk_33_method_47_code 25 = .ok (.iinc 1 (-16), 3) := by decide +kernel
theorem d0_28 : decode jdk_33_method_47_code 28 = .ok (.iload_n 0, 1) := by decide +kernel
theorem d0_29 : decode jdk_33_method_47_code 29 = .ok (.bipush 16, 2) := by decide +kernel
theorem d0_31 : decode jdk_33_method_47_code 31 = .ok (.iushr, 1) := by decide +kernel
theorem d0_32 : decode jdk_33_method_47_code 32 = .ok (.istore_n 0, 1) := by decide +kernel
theorem d0_4 : decode jdk_33_method_47_code 4 = .ok (.iload_n 0, 1) := by decide +kernel
theorem d0_5 : decode jdk_33_method_47_code 5 = .ok (.ifCond .ne 8, 3) := by decide +kernel
theorem d0_13 : decode jdk_33_method_47_code 13 = .ok (.iconst 0, 1) := by decide +kernel
theorem d0_14 : decode jdk_33_method_47_code 14 = .ok (.ireturn, 1) := by decide +kernel
theorem d0_8 : decode jdk_33_method_47_code 8 = .ok (.bipush 32, 2) := by decide +kernel
theorem d0_10 : decode jdk_33_method_47_code 10 = .ok (.goto 4, 3) := by decide +kernel
theorem pn_0 : plainFor yN6 = true := by first | (apply plainFor_of_name; simp [plainName, overriddenIn]; done) | decide +kernel
theorem m_n32 (l : Launch) (Z : State) (a0 : Array Value) (hw : HW Z a0) (F : List Ent) {a : Int32}  :
    Met l Z yN6 jdk_33_method_47_code 2 (some .int) { frames := 0, cells := 0, slots := 0, locals := 0 } #[(.int a)] (F) (fun r M' => r = some (.int (own_n32 a)) ∧ M' = F) := by
  refine Met.of_go pn_0 (Ls := #[.val (.int a), .unset]) (fun m => rfl) ?_
  intro E C
  refine Go.iloadN C d0_0 rfl rfl ?_
  refine Go.ifc C d0_1 (by decide) (q := 15) rfl (q' := 4) rfl (fun (h1_1 : 0 < a) => ?_) (fun (h1_1 : ¬ 0 < a) => ?_)
  · refine Go.bipush C d0_15 rfl (v := (31 : Int32)) (by decide) ?_
    refine Go.istoreN C d0_17 rfl (Ls' := #[.val (.int a), .val (.int (31 : Int32))]) rfl ?_
    refine Go.iloadN C d0_18 rfl rfl ?_
    refine Go.ldcWI C (v := (65536 : Int32)) (wd hw 41 rfl) d0_19 rfl ?_
    refine Go.icmp C d0_22 (by decide) (q := 33) rfl (q' := 25) rfl (fun (h22_2 : a < (65536 : Int32)) => ?_) (fun (h22_2 : ¬ a < (65536 : Int32)) => ?_)
    · refine Go.iloadN C d0_33 rfl rfl ?_
      refine Go.sipush C d0_34 rfl (v := (256 : Int32)) (by decide) ?_
      refine Go.icmp C d0_37 (by decide) (q := 48) rfl (q' := 40) rfl (fun (h37_3 : a < (256 : Int32)) => ?_) (fun (h37_3 : ¬ a < (256 : Int32)) => ?_)
      · refine Go.iloadN C d0_48 rfl rfl ?_
        refine Go.bipush C d0_49 rfl (v := (16 : Int32)) (by decide) ?_
        refine Go.icmp C d0_51 (by decide) (q := 61) rfl (q' := 54) rfl (fun (h51_4 : a < (16 : Int32)) => ?_) (fun (h51_4 : ¬ a < (16 : Int32)) => ?_)
        · refine Go.iloadN C d0_61 rfl rfl ?_
          refine Go.iconst C d0_62 rfl (v := (4 : Int32)) rfl ?_
          refine Go.icmp C d0_63 (by decide) (q := 73) rfl (q' := 66) rfl (fun (h63_5 : a < (4 : Int32)) => ?_) (fun (h63_5 : ¬ a < (4 : Int32)) => ?_)
          · refine Go.iloadN C d0_73 rfl rfl ?_
            refine Go.iloadN C d0_74 rfl rfl ?_
            refine Go.iconst C d0_75 rfl (v := (1 : Int32)) rfl ?_
            refine Go.iushr C d0_76 rfl ?_
            refine Go.isub C d0_77 rfl ?_
            refine Go.retI C rfl d0_78 (by decide) (by decide) ?_
            have kt := Int32.toInt_lt a; have k0 : 0 < a.toInt := (by simpa [Int32.lt_iff_toInt_lt] using h1_1); have q1 := h22_2; have q2 := h37_3; have q3 := h51_4; have q4 := h63_5; simp only [Int32.lt_iff_toInt_lt, show (65536 : Int32).toInt = 65536 from rfl, show (256 : Int32).toInt = 256 from rfl, show (16 : Int32).toInt = 16 from rfl, show (4 : Int32).toInt = 4 from rfl] at q1 q2 q3 q4; exact ⟨congrArg (fun z => some (Value.int z)) (own_nleaf (s := 0) (X := a) h1_1 rfl (by decide) (by omega) (by omega) (by omega) (by decide)), rfl⟩
          · refine Go.iinc C d0_66 rfl rfl (v := (29 : Int32)) (by first | rfl | decide) (Ls' := #[.val (.int a), .val (.int (29 : Int32))]) rfl ?_
            refine Go.iloadN C d0_69 rfl rfl ?_
            refine Go.iconst C d0_70 rfl (v := (2 : Int32)) rfl ?_
            refine Go.iushr C d0_71 rfl ?_
            refine Go.istoreN C d0_72 rfl (Ls' := #[.val (.int (XT.ushr a (2 : Int32))), .val (.int (29 : Int32))]) rfl ?_
            refine Go.iloadN C d0_73 rfl rfl ?_
            refine Go.iloadN C d0_74 rfl rfl ?_
            refine Go.iconst C d0_75 rfl (v := (1 : Int32)) rfl ?_
            refine Go.iushr C d0_76 rfl ?_
            refine Go.isub C d0_77 rfl ?_
            refine Go.retI C rfl d0_78 (by decide) (by decide) ?_
            have kt := Int32.toInt_lt a; have k0 : 0 < a.toInt := (by simpa [Int32.lt_iff_toInt_lt] using h1_1); have k1 : (XT.ushr a (2 : Int32)).toInt = a.toInt / 4 := own_us (k := 2) (Int.le_of_lt k0) (by decide) (by decide); have m1 : 0 ≤ (XT.ushr a (2 : Int32)).toInt := (by omega); have q1 := h22_2; have q2 := h37_3; have q3 := h51_4; have q4 := h63_5; simp only [Int32.lt_iff_toInt_lt, show (65536 : Int32).toInt = 65536 from rfl, show (256 : Int32).toInt = 256 from rfl, show (16 : Int32).toInt = 16 from rfl, show (4 : Int32).toInt = 4 from rfl] at q1 q2 q3 q4; exact ⟨congrArg (fun z => some (Value.int z)) (own_nleaf (s := 2) (X := (XT.ushr a (2 : Int32))) h1_1 rfl (by decide) (by omega) (by omega) (by omega) (by decide)), rfl⟩
        · refine Go.iinc C d0_54 rfl rfl (v := (27 : Int32)) (by first | rfl | decide) (Ls' := #[.val (.int a), .val (.int (27 : Int32))]) rfl ?_
          refine Go.iloadN C d0_57 rfl rfl ?_
          refine Go.iconst C d0_58 rfl (v := (4 : Int32)) rfl ?_
          refine Go.iushr C d0_59 rfl ?_
          refine Go.istoreN C d0_60 rfl (Ls' := #[.val (.int (XT.ushr a (4 : Int32))), .val (.int (27 : Int32))]) rfl ?_
          refine Go.iloadN C d0_61 rfl rfl ?_
          refine Go.iconst C d0_62 rfl (v := (4 : Int32)) rfl ?_
          refine Go.icmp C d0_63 (by decide) (q := 73) rfl (q' := 66) rfl (fun (h63_6 : (XT.ushr a (4 : Int32)) < (4 : Int32)) => ?_) (fun (h63_6 : ¬ (XT.ushr a (4 : Int32)) < (4 : Int32)) => ?_)
          · refine Go.iloadN C d0_73 rfl rfl ?_
            refine Go.iloadN C d0_74 rfl rfl ?_
            refine Go.iconst C d0_75 rfl (v := (1 : Int32)) rfl ?_
            refine Go.iushr C d0_76 rfl ?_
            refine Go.isub C d0_77 rfl ?_
            refine Go.retI C rfl d0_78 (by decide) (by decide) ?_
            have kt := Int32.toInt_lt a; have k0 : 0 < a.toInt := (by simpa [Int32.lt_iff_toInt_lt] using h1_1); have k1 : (XT.ushr a (4 : Int32)).toInt = a.toInt / 16 := own_us (k := 4) (Int.le_of_lt k0) (by decide) (by decide); have m1 : 0 ≤ (XT.ushr a (4 : Int32)).toInt := (by omega); have q1 := h22_2; have q2 := h37_3; have q3 := h51_4; have q4 := h63_6; simp only [Int32.lt_iff_toInt_lt, show (65536 : Int32).toInt = 65536 from rfl, show (256 : Int32).toInt = 256 from rfl, show (16 : Int32).toInt = 16 from rfl, show (4 : Int32).toInt = 4 from rfl] at q1 q2 q3 q4; exact ⟨congrArg (fun z => some (Value.int z)) (own_nleaf (s := 4) (X := (XT.ushr a (4 : Int32))) h1_1 rfl (by decide) (by omega) (by omega) (by omega) (by decide)), rfl⟩
          · refine Go.iinc C d0_66 rfl rfl (v := (25 : Int32)) (by first | rfl | decide) (Ls' := #[.val (.int (XT.ushr a (4 : Int32))), .val (.int (25 : Int32))]) rfl ?_
            refine Go.iloadN C d0_69 rfl rfl ?_
            refine Go.iconst C d0_70 rfl (v := (2 : Int32)) rfl ?_
            refine Go.iushr C d0_71 rfl ?_
            refine Go.istoreN C d0_72 rfl (Ls' := #[.val (.int (XT.ushr (XT.ushr a (4 : Int32)) (2 : Int32))), .val (.int (25 : Int32))]) rfl ?_
            refine Go.iloadN C d0_73 rfl rfl ?_
            refine Go.iloadN C d0_74 rfl rfl ?_
            refine Go.iconst C d0_75 rfl (v := (1 : Int32)) rfl ?_
            refine Go.iushr C d0_76 rfl ?_
            refine Go.isub C d0_77 rfl ?_
            refine Go.retI C rfl d0_78 (by decide) (by decide) ?_
            have kt := Int32.toInt_lt a; have k0 : 0 < a.toInt := (by simpa [Int32.lt_iff_toInt_lt] using h1_1); have k1 : (XT.ushr a (4 : Int32)).toInt = a.toInt / 16 := own_us (k := 4) (Int.le_of_lt k0) (by decide) (by decide); have m1 : 0 ≤ (XT.ushr a (4 : Int32)).toInt := (by omega); have k2 : (XT.ushr (XT.ushr a (4 : Int32)) (2 : Int32)).toInt = (XT.ushr a (4 : Int32)).toInt / 4 := own_us (k := 2) m1 (by decide) (by decide); have m2 : 0 ≤ (XT.ushr (XT.ushr a (4 : Int32)) (2 : Int32)).toInt := (by omega); have q1 := h22_2; have q2 := h37_3; have q3 := h51_4; have q4 := h63_6; simp only [Int32.lt_iff_toInt_lt, show (65536 : Int32).toInt = 65536 from rfl, show (256 : Int32).toInt = 256 from rfl, show (16 : Int32).toInt = 16 from rfl, show (4 : Int32).toInt = 4 from rfl] at q1 q2 q3 q4; exact ⟨congrArg (fun z => some (Value.int z)) (own_nleaf (s := 6) (X := (XT.ushr (XT.ushr a (4 : Int32)) (2 : Int32))) h1_1 rfl (by decide) (by omega) (by omega) (by omega) (by decide)), rfl⟩
      · refine Go.iinc C d0_40 rfl rfl (v := (23 : Int32)) (by first | rfl | decide) (Ls' := #[.val (.int a), .val (.int (23 : Int32))]) rfl ?_
        refine Go.iloadN C d0_43 rfl rfl ?_
        refine Go.bipush C d0_44 rfl (v := (8 : Int32)) (by decide) ?_
        refine Go.iushr C d0_46 rfl ?_
        refine Go.istoreN C d0_47 rfl (Ls' := #[.val (.int (XT.ushr a (8 : Int32))), .val (.int (23 : Int32))]) rfl ?_
        refine Go.iloadN C d0_48 rfl rfl ?_
        refine Go.bipush C d0_49 rfl (v := (16 : Int32)) (by decide) ?_
        refine Go.icmp C d0_51 (by decide) (q := 61) rfl (q' := 54) rfl (fun (h51_7 : (XT.ushr a (8 : Int32)) < (16 : Int32)) => ?_) (fun (h51_7 : ¬ (XT.ushr a (8 : Int32)) < (16 : Int32)) => ?_)
        · refine Go.iloadN C d0_61 rfl rfl ?_
          refine Go.iconst C d0_62 rfl (v := (4 : Int32)) rfl ?_
          refine Go.icmp C d0_63 (by decide) (q := 73) rfl (q' := 66) rfl (fun (h63_8 : (XT.ushr a (8 : Int32)) < (4 : Int32)) => ?_) (fun (h63_8 : ¬ (XT.ushr a (8 : Int32)) < (4 : Int32)) => ?_)
          · refine Go.iloadN C d0_73 rfl rfl ?_
            refine Go.iloadN C d0_74 rfl rfl ?_
            refine Go.iconst C d0_75 rfl (v := (1 : Int32)) rfl ?_
            refine Go.iushr C d0_76 rfl ?_
            refine Go.isub C d0_77 rfl ?_
            refine Go.retI C rfl d0_78 (by decide) (by decide) ?_
            have kt := Int32.toInt_lt a; have k0 : 0 < a.toInt := (by simpa [Int32.lt_iff_toInt_lt] using h1_1); have k1 : (XT.ushr a (8 : Int32)).toInt = a.toInt / 256 := own_us (k := 8) (Int.le_of_lt k0) (by decide) (by decide); have m1 : 0 ≤ (XT.ushr a (8 : Int32)).toInt := (by omega); have q1 := h22_2; have q2 := h37_3; have q3 := h51_7; have q4 := h63_8; simp only [Int32.lt_iff_toInt_lt, show (65536 : Int32).toInt = 65536 from rfl, show (256 : Int32).toInt = 256 from rfl, show (16 : Int32).toInt = 16 from rfl, show (4 : Int32).toInt = 4 from rfl] at q1 q2 q3 q4; exact ⟨congrArg (fun z => some (Value.int z)) (own_nleaf (s := 8) (X := (XT.ushr a (8 : Int32))) h1_1 rfl (by decide) (by omega) (by omega) (by omega) (by decide)), rfl⟩
          · refine Go.iinc C d0_66 rfl rfl (v := (21 : Int32)) (by first | rfl | decide) (Ls' := #[.val (.int (XT.ushr a (8 : Int32))), .val (.int (21 : Int32))]) rfl ?_
            refine Go.iloadN C d0_69 rfl rfl ?_
            refine Go.iconst C d0_70 rfl (v := (2 : Int32)) rfl ?_
            refine Go.iushr C d0_71 rfl ?_
            refine Go.istoreN C d0_72 rfl (Ls' := #[.val (.int (XT.ushr (XT.ushr a (8 : Int32)) (2 : Int32))), .val (.int (21 : Int32))]) rfl ?_
            refine Go.iloadN C d0_73 rfl rfl ?_
            refine Go.iloadN C d0_74 rfl rfl ?_
            refine Go.iconst C d0_75 rfl (v := (1 : Int32)) rfl ?_
            refine Go.iushr C d0_76 rfl ?_
            refine Go.isub C d0_77 rfl ?_
            refine Go.retI C rfl d0_78 (by decide) (by decide) ?_
            have kt := Int32.toInt_lt a; have k0 : 0 < a.toInt := (by simpa [Int32.lt_iff_toInt_lt] using h1_1); have k1 : (XT.ushr a (8 : Int32)).toInt = a.toInt / 256 := own_us (k := 8) (Int.le_of_lt k0) (by decide) (by decide); have m1 : 0 ≤ (XT.ushr a (8 : Int32)).toInt := (by omega); have k2 : (XT.ushr (XT.ushr a (8 : Int32)) (2 : Int32)).toInt = (XT.ushr a (8 : Int32)).toInt / 4 := own_us (k := 2) m1 (by decide) (by decide); have m2 : 0 ≤ (XT.ushr (XT.ushr a (8 : Int32)) (2 : Int32)).toInt := (by omega); have q1 := h22_2; have q2 := h37_3; have q3 := h51_7; have q4 := h63_8; simp only [Int32.lt_iff_toInt_lt, show (65536 : Int32).toInt = 65536 from rfl, show (256 : Int32).toInt = 256 from rfl, show (16 : Int32).toInt = 16 from rfl, show (4 : Int32).toInt = 4 from rfl] at q1 q2 q3 q4; exact ⟨congrArg (fun z => some (Value.int z)) (own_nleaf (s := 10) (X := (XT.ushr (XT.ushr a (8 : Int32)) (2 : Int32))) h1_1 rfl (by decide) (by omega) (by omega) (by omega) (by decide)), rfl⟩
        · refine Go.iinc C d0_54 rfl rfl (v := (19 : Int32)) (by first | rfl | decide) (Ls' := #[.val (.int (XT.ushr a (8 : Int32))), .val (.int (19 : Int32))]) rfl ?_
          refine Go.iloadN C d0_57 rfl rfl ?_
          refine Go.iconst C d0_58 rfl (v := (4 : Int32)) rfl ?_
          refine Go.iushr C d0_59 rfl ?_
          refine Go.istoreN C d0_60 rfl (Ls' := #[.val (.int (XT.ushr (XT.ushr a (8 : Int32)) (4 : Int32))), .val (.int (19 : Int32))]) rfl ?_
          refine Go.iloadN C d0_61 rfl rfl ?_
          refine Go.iconst C d0_62 rfl (v := (4 : Int32)) rfl ?_
          refine Go.icmp C d0_63 (by decide) (q := 73) rfl (q' := 66) rfl (fun (h63_9 : (XT.ushr (XT.ushr a (8 : Int32)) (4 : Int32)) < (4 : Int32)) => ?_) (fun (h63_9 : ¬ (XT.ushr (XT.ushr a (8 : Int32)) (4 : Int32)) < (4 : Int32)) => ?_)
          · refine Go.iloadN C d0_73 rfl rfl ?_
            refine Go.iloadN C d0_74 rfl rfl ?_
            refine Go.iconst C d0_75 rfl (v := (1 : Int32)) rfl ?_
            refine Go.iushr C d0_76 rfl ?_
            refine Go.isub C d0_77 rfl ?_
            refine Go.retI C rfl d0_78 (by decide) (by decide) ?_
            have kt := Int32.toInt_lt a; have k0 : 0 < a.toInt := (by simpa [Int32.lt_iff_toInt_lt] using h1_1); have k1 : (XT.ushr a (8 : Int32)).toInt = a.toInt / 256 := own_us (k := 8) (Int.le_of_lt k0) (by decide) (by decide); have m1 : 0 ≤ (XT.ushr a (8 : Int32)).toInt := (by omega); have k2 : (XT.ushr (XT.ushr a (8 : Int32)) (4 : Int32)).toInt = (XT.ushr a (8 : Int32)).toInt / 16 := own_us (k := 4) m1 (by decide) (by decide); have m2 : 0 ≤ (XT.ushr (XT.ushr a (8 : Int32)) (4 : Int32)).toInt := (by omega); have q1 := h22_2; have q2 := h37_3; have q3 := h51_7; have q4 := h63_9; simp only [Int32.lt_iff_toInt_lt, show (65536 : Int32).toInt = 65536 from rfl, show (256 : Int32).toInt = 256 from rfl, show (16 : Int32).toInt = 16 from rfl, show (4 : Int32).toInt = 4 from rfl] at q1 q2 q3 q4; exact ⟨congrArg (fun z => some (Value.int z)) (own_nleaf (s := 12) (X := (XT.ushr (XT.ushr a (8 : Int32)) (4 : Int32))) h1_1 rfl (by decide) (by omega) (by omega) (by omega) (by decide)), rfl⟩
          · refine Go.iinc C d0_66 rfl rfl (v := (17 : Int32)) (by first | rfl | decide) (Ls' := #[.val (.int (XT.ushr (XT.ushr a (8 : Int32)) (4 : Int32))), .val (.int (17 : Int32))]) rfl ?_
            refine Go.iloadN C d0_69 rfl rfl ?_
            refine Go.iconst C d0_70 rfl (v := (2 : Int32)) rfl ?_
            refine Go.iushr C d0_71 rfl ?_
            refine Go.istoreN C d0_72 rfl (Ls' := #[.val (.int (XT.ushr (XT.ushr (XT.ushr a (8 : Int32)) (4 : Int32)) (2 : Int32))), .val (.int (17 : Int32))]) rfl ?_
            refine Go.iloadN C d0_73 rfl rfl ?_
            refine Go.iloadN C d0_74 rfl rfl ?_
            refine Go.iconst C d0_75 rfl (v := (1 : Int32)) rfl ?_
            refine Go.iushr C d0_76 rfl ?_
            refine Go.isub C d0_77 rfl ?_
            refine Go.retI C rfl d0_78 (by decide) (by decide) ?_
            have kt := Int32.toInt_lt a; have k0 : 0 < a.toInt := (by simpa [Int32.lt_iff_toInt_lt] using h1_1); have k1 : (XT.ushr a (8 : Int32)).toInt = a.toInt / 256 := own_us (k := 8) (Int.le_of_lt k0) (by decide) (by decide); have m1 : 0 ≤ (XT.ushr a (8 : Int32)).toInt := (by omega); have k2 : (XT.ushr (XT.ushr a (8 : Int32)) (4 : Int32)).toInt = (XT.ushr a (8 : Int32)).toInt / 16 := own_us (k := 4) m1 (by decide) (by decide); have m2 : 0 ≤ (XT.ushr (XT.ushr a (8 : Int32)) (4 : Int32)).toInt := (by omega); have k3 : (XT.ushr (XT.ushr (XT.ushr a (8 : Int32)) (4 : Int32)) (2 : Int32)).toInt = (XT.ushr (XT.ushr a (8 : Int32)) (4 : Int32)).toInt / 4 := own_us (k := 2) m2 (by decide) (by decide); have m3 : 0 ≤ (XT.ushr (XT.ushr (XT.ushr a (8 : Int32)) (4 : Int32)) (2 : Int32)).toInt := (by omega); have q1 := h22_2; have q2 := h37_3; have q3 := h51_7; have q4 := h63_9; simp only [Int32.lt_iff_toInt_lt, show (65536 : Int32).toInt = 65536 from rfl, show (256 : Int32).toInt = 256 from rfl, show (16 : Int32).toInt = 16 from rfl, show (4 : Int32).toInt = 4 from rfl] at q1 q2 q3 q4; exact ⟨congrArg (fun z => some (Value.int z)) (own_nleaf (s := 14) (X := (XT.ushr (XT.ushr (XT.ushr a (8 : Int32)) (4 : Int32)) (2 : Int32))) h1_1 rfl (by decide) (by omega) (by omega) (by omega) (by decide)), rfl⟩
    · refine Go.iinc C d0_25 rfl rfl (v := (15 : Int32)) (by first | rfl | decide) (Ls' := #[.val (.int a), .val (.int (15 : Int32))]) rfl ?_
      refine Go.iloadN C d0_28 rfl rfl ?_
      refine Go.bipush C d0_29 rfl (v := (16 : Int32)) (by decide) ?_
      refine Go.iushr C d0_31 rfl ?_
      refine Go.istoreN C d0_32 rfl (Ls' := #[.val (.int (XT.ushr a (16 : Int32))), .val (.int (15 : Int32))]) rfl ?_
      refine Go.iloadN C d0_33 rfl rfl ?_
      refine Go.sipush C d0_34 rfl (v := (256 : Int32)) (by decide) ?_
      refine Go.icmp C d0_37 (by decide) (q := 48) rfl (q' := 40) rfl (fun (h37_10 : (XT.ushr a (16 : Int32)) < (256 : Int32)) => ?_) (fun (h37_10 : ¬ (XT.ushr a (16 : Int32)) < (256 : Int32)) => ?_)
      · refine Go.iloadN C d0_48 rfl rfl ?_
        refine Go.bipush C d0_49 rfl (v := (16 : Int32)) (by decide) ?_
        refine Go.icmp C d0_51 (by decide) (q := 61) rfl (q' := 54) rfl (fun (h51_11 : (XT.ushr a (16 : Int32)) < (16 : Int32)) => ?_) (fun (h51_11 : ¬ (XT.ushr a (16 : Int32)) < (16 : Int32)) => ?_)
        · refine Go.iloadN C d0_61 rfl rfl ?_
          refine Go.iconst C d0_62 rfl (v := (4 : Int32)) rfl ?_
          refine Go.icmp C d0_63 (by decide) (q := 73) rfl (q' := 66) rfl (fun (h63_12 : (XT.ushr a (16 : Int32)) < (4 : Int32)) => ?_) (fun (h63_12 : ¬ (XT.ushr a (16 : Int32)) < (4 : Int32)) => ?_)
          · refine Go.iloadN C d0_73 rfl rfl ?_
            refine Go.iloadN C d0_74 rfl rfl ?_
            refine Go.iconst C d0_75 rfl (v := (1 : Int32)) rfl ?_
            refine Go.iushr C d0_76 rfl ?_
            refine Go.isub C d0_77 rfl ?_
            refine Go.retI C rfl d0_78 (by decide) (by decide) ?_
            have kt := Int32.toInt_lt a; have k0 : 0 < a.toInt := (by simpa [Int32.lt_iff_toInt_lt] using h1_1); have k1 : (XT.ushr a (16 : Int32)).toInt = a.toInt / 65536 := own_us (k := 16) (Int.le_of_lt k0) (by decide) (by decide); have m1 : 0 ≤ (XT.ushr a (16 : Int32)).toInt := (by omega); have q1 := h22_2; have q2 := h37_10; have q3 := h51_11; have q4 := h63_12; simp only [Int32.lt_iff_toInt_lt, show (65536 : Int32).toInt = 65536 from rfl, show (256 : Int32).toInt = 256 from rfl, show (16 : Int32).toInt = 16 from rfl, show (4 : Int32).toInt = 4 from rfl] at q1 q2 q3 q4; exact ⟨congrArg (fun z => some (Value.int z)) (own_nleaf (s := 16) (X := (XT.ushr a (16 : Int32))) h1_1 rfl (by decide) (by omega) (by omega) (by omega) (by decide)), rfl⟩
          · refine Go.iinc C d0_66 rfl rfl (v := (13 : Int32)) (by first | rfl | decide) (Ls' := #[.val (.int (XT.ushr a (16 : Int32))), .val (.int (13 : Int32))]) rfl ?_
            refine Go.iloadN C d0_69 rfl rfl ?_
            refine Go.iconst C d0_70 rfl (v := (2 : Int32)) rfl ?_
            refine Go.iushr C d0_71 rfl ?_
            refine Go.istoreN C d0_72 rfl (Ls' := #[.val (.int (XT.ushr (XT.ushr a (16 : Int32)) (2 : Int32))), .val (.int (13 : Int32))]) rfl ?_
            refine Go.iloadN C d0_73 rfl rfl ?_
            refine Go.iloadN C d0_74 rfl rfl ?_
            refine Go.iconst C d0_75 rfl (v := (1 : Int32)) rfl ?_
            refine Go.iushr C d0_76 rfl ?_
            refine Go.isub C d0_77 rfl ?_
            refine Go.retI C rfl d0_78 (by decide) (by decide) ?_
            have kt := Int32.toInt_lt a; have k0 : 0 < a.toInt := (by simpa [Int32.lt_iff_toInt_lt] using h1_1); have k1 : (XT.ushr a (16 : Int32)).toInt = a.toInt / 65536 := own_us (k := 16) (Int.le_of_lt k0) (by decide) (by decide); have m1 : 0 ≤ (XT.ushr a (16 : Int32)).toInt := (by omega); have k2 : (XT.ushr (XT.ushr a (16 : Int32)) (2 : Int32)).toInt = (XT.ushr a (16 : Int32)).toInt / 4 := own_us (k := 2) m1 (by decide) (by decide); have m2 : 0 ≤ (XT.ushr (XT.ushr a (16 : Int32)) (2 : Int32)).toInt := (by omega); have q1 := h22_2; have q2 := h37_10; have q3 := h51_11; have q4 := h63_12; simp only [Int32.lt_iff_toInt_lt, show (65536 : Int32).toInt = 65536 from rfl, show (256 : Int32).toInt = 256 from rfl, show (16 : Int32).toInt = 16 from rfl, show (4 : Int32).toInt = 4 from rfl] at q1 q2 q3 q4; exact ⟨congrArg (fun z => some (Value.int z)) (own_nleaf (s := 18) (X := (XT.ushr (XT.ushr a (16 : Int32)) (2 : Int32))) h1_1 rfl (by decide) (by omega) (by omega) (by omega) (by decide)), rfl⟩
        · refine Go.iinc C d0_54 rfl rfl (v := (11 : Int32)) (by first | rfl | decide) (Ls' := #[.val (.int (XT.ushr a (16 : Int32))), .val (.int (11 : Int32))]) rfl ?_
          refine Go.iloadN C d0_57 rfl rfl ?_
          refine Go.iconst C d0_58 rfl (v := (4 : Int32)) rfl ?_
          refine Go.iushr C d0_59 rfl ?_
          refine Go.istoreN C d0_60 rfl (Ls' := #[.val (.int (XT.ushr (XT.ushr a (16 : Int32)) (4 : Int32))), .val (.int (11 : Int32))]) rfl ?_
          refine Go.iloadN C d0_61 rfl rfl ?_
          refine Go.iconst C d0_62 rfl (v := (4 : Int32)) rfl ?_
          refine Go.icmp C d0_63 (by decide) (q := 73) rfl (q' := 66) rfl (fun (h63_13 : (XT.ushr (XT.ushr a (16 : Int32)) (4 : Int32)) < (4 : Int32)) => ?_) (fun (h63_13 : ¬ (XT.ushr (XT.ushr a (16 : Int32)) (4 : Int32)) < (4 : Int32)) => ?_)
          · refine Go.iloadN C d0_73 rfl rfl ?_
            refine Go.iloadN C d0_74 rfl rfl ?_
            refine Go.iconst C d0_75 rfl (v := (1 : Int32)) rfl ?_
            refine Go.iushr C d0_76 rfl ?_
            refine Go.isub C d0_77 rfl ?_
            refine Go.retI C rfl d0_78 (by decide) (by decide) ?_
            have kt := Int32.toInt_lt a; have k0 : 0 < a.toInt := (by simpa [Int32.lt_iff_toInt_lt] using h1_1); have k1 : (XT.ushr a (16 : Int32)).toInt = a.toInt / 65536 := own_us (k := 16) (Int.le_of_lt k0) (by decide) (by decide); have m1 : 0 ≤ (XT.ushr a (16 : Int32)).toInt := (by omega); have k2 : (XT.ushr (XT.ushr a (16 : Int32)) (4 : Int32)).toInt = (XT.ushr a (16 : Int32)).toInt / 16 := own_us (k := 4) m1 (by decide) (by decide); have m2 : 0 ≤ (XT.ushr (XT.ushr a (16 : Int32)) (4 : Int32)).toInt := (by omega); have q1 := h22_2; have q2 := h37_10; have q3 := h51_11; have q4 := h63_13; simp only [Int32.lt_iff_toInt_lt, show (65536 : Int32).toInt = 65536 from rfl, show (256 : Int32).toInt = 256 from rfl, show (16 : Int32).toInt = 16 from rfl, show (4 : Int32).toInt = 4 from rfl] at q1 q2 q3 q4; exact ⟨congrArg (fun z => some (Value.int z)) (own_nleaf (s := 20) (X := (XT.ushr (XT.ushr a (16 : Int32)) (4 : Int32))) h1_1 rfl (by decide) (by omega) (by omega) (by omega) (by decide)), rfl⟩
          · refine Go.iinc C d0_66 rfl rfl (v := (9 : Int32)) (by first | rfl | decide) (Ls' := #[.val (.int (XT.ushr (XT.ushr a (16 : Int32)) (4 : Int32))), .val (.int (9 : Int32))]) rfl ?_
            refine Go.iloadN C d0_69 rfl rfl ?_
            refine Go.iconst C d0_70 rfl (v := (2 : Int32)) rfl ?_
            refine Go.iushr C d0_71 rfl ?_
            refine Go.istoreN C d0_72 rfl (Ls' := #[.val (.int (XT.ushr (XT.ushr (XT.ushr a (16 : Int32)) (4 : Int32)) (2 : Int32))), .val (.int (9 : Int32))]) rfl ?_
            refine Go.iloadN C d0_73 rfl rfl ?_
            refine Go.iloadN C d0_74 rfl rfl ?_
            refine Go.iconst C d0_75 rfl (v := (1 : Int32)) rfl ?_
            refine Go.iushr C d0_76 rfl ?_
            refine Go.isub C d0_77 rfl ?_
            refine Go.retI C rfl d0_78 (by decide) (by decide) ?_
            have kt := Int32.toInt_lt a; have k0 : 0 < a.toInt := (by simpa [Int32.lt_iff_toInt_lt] using h1_1); have k1 : (XT.ushr a (16 : Int32)).toInt = a.toInt / 65536 := own_us (k := 16) (Int.le_of_lt k0) (by decide) (by decide); have m1 : 0 ≤ (XT.ushr a (16 : Int32)).toInt := (by omega); have k2 : (XT.ushr (XT.ushr a (16 : Int32)) (4 : Int32)).toInt = (XT.ushr a (16 : Int32)).toInt / 16 := own_us (k := 4) m1 (by decide) (by decide); have m2 : 0 ≤ (XT.ushr (XT.ushr a (16 : Int32)) (4 : Int32)).toInt := (by omega); have k3 : (XT.ushr (XT.ushr (XT.ushr a (16 : Int32)) (4 : Int32)) (2 : Int32)).toInt = (XT.ushr (XT.ushr a (16 : Int32)) (4 : Int32)).toInt / 4 := own_us (k := 2) m2 (by decide) (by decide); have m3 : 0 ≤ (XT.ushr (XT.ushr (XT.ushr a (16 : Int32)) (4 : Int32)) (2 : Int32)).toInt := (by omega); have q1 := h22_2; have q2 := h37_10; have q3 := h51_11; have q4 := h63_13; simp only [Int32.lt_iff_toInt_lt, show (65536 : Int32).toInt = 65536 from rfl, show (256 : Int32).toInt = 256 from rfl, show (16 : Int32).toInt = 16 from rfl, show (4 : Int32).toInt = 4 from rfl] at q1 q2 q3 q4; exact ⟨congrArg (fun z => some (Value.int z)) (own_nleaf (s := 22) (X := (XT.ushr (XT.ushr (XT.ushr a (16 : Int32)) (4 : Int32)) (2 : Int32))) h1_1 rfl (by decide) (by omega) (by omega) (by omega) (by decide)), rfl⟩
      · refine Go.iinc C d0_40 rfl rfl (v := (7 : Int32)) (by first | rfl | decide) (Ls' := #[.val (.int (XT.ushr a (16 : Int32))), .val (.int (7 : Int32))]) rfl ?_
        refine Go.iloadN C d0_43 rfl rfl ?_
        refine Go.bipush C d0_44 rfl (v := (8 : Int32)) (by decide) ?_
        refine Go.iushr C d0_46 rfl ?_
        refine Go.istoreN C d0_47 rfl (Ls' := #[.val (.int (XT.ushr (XT.ushr a (16 : Int32)) (8 : Int32))), .val (.int (7 : Int32))]) rfl ?_
        refine Go.iloadN C d0_48 rfl rfl ?_
        refine Go.bipush C d0_49 rfl (v := (16 : Int32)) (by decide) ?_
        refine Go.icmp C d0_51 (by decide) (q := 61) rfl (q' := 54) rfl (fun (h51_14 : (XT.ushr (XT.ushr a (16 : Int32)) (8 : Int32)) < (16 : Int32)) => ?_) (fun (h51_14 : ¬ (XT.ushr (XT.ushr a (16 : Int32)) (8 : Int32)) < (16 : Int32)) => ?_)
        · refine Go.iloadN C d0_61 rfl rfl ?_
          refine Go.iconst C d0_62 rfl (v := (4 : Int32)) rfl ?_
          refine Go.icmp C d0_63 (by decide) (q := 73) rfl (q' := 66) rfl (fun (h63_15 : (XT.ushr (XT.ushr a (16 : Int32)) (8 : Int32)) < (4 : Int32)) => ?_) (fun (h63_15 : ¬ (XT.ushr (XT.ushr a (16 : Int32)) (8 : Int32)) < (4 : Int32)) => ?_)
          · refine Go.iloadN C d0_73 rfl rfl ?_
            refine Go.iloadN C d0_74 rfl rfl ?_
            refine Go.iconst C d0_75 rfl (v := (1 : Int32)) rfl ?_
            refine Go.iushr C d0_76 rfl ?_
            refine Go.isub C d0_77 rfl ?_
            refine Go.retI C rfl d0_78 (by decide) (by decide) ?_
            have kt := Int32.toInt_lt a; have k0 : 0 < a.toInt := (by simpa [Int32.lt_iff_toInt_lt] using h1_1); have k1 : (XT.ushr a (16 : Int32)).toInt = a.toInt / 65536 := own_us (k := 16) (Int.le_of_lt k0) (by decide) (by decide); have m1 : 0 ≤ (XT.ushr a (16 : Int32)).toInt := (by omega); have k2 : (XT.ushr (XT.ushr a (16 : Int32)) (8 : Int32)).toInt = (XT.ushr a (16 : Int32)).toInt / 256 := own_us (k := 8) m1 (by decide) (by decide); have m2 : 0 ≤ (XT.ushr (XT.ushr a (16 : Int32)) (8 : Int32)).toInt := (by omega); have q1 := h22_2; have q2 := h37_10; have q3 := h51_14; have q4 := h63_15; simp only [Int32.lt_iff_toInt_lt, show (65536 : Int32).toInt = 65536 from rfl, show (256 : Int32).toInt = 256 from rfl, show (16 : Int32).toInt = 16 from rfl, show (4 : Int32).toInt = 4 from rfl] at q1 q2 q3 q4; exact ⟨congrArg (fun z => some (Value.int z)) (own_nleaf (s := 24) (X := (XT.ushr (XT.ushr a (16 : Int32)) (8 : Int32))) h1_1 rfl (by decide) (by omega) (by omega) (by omega) (by decide)), rfl⟩
          · refine Go.iinc C d0_66 rfl rfl (v := (5 : Int32)) (by first | rfl | decide) (Ls' := #[.val (.int (XT.ushr (XT.ushr a (16 : Int32)) (8 : Int32))), .val (.int (5 : Int32))]) rfl ?_
            refine Go.iloadN C d0_69 rfl rfl ?_
            refine Go.iconst C d0_70 rfl (v := (2 : Int32)) rfl ?_
            refine Go.iushr C d0_71 rfl ?_
            refine Go.istoreN C d0_72 rfl (Ls' := #[.val (.int (XT.ushr (XT.ushr (XT.ushr a (16 : Int32)) (8 : Int32)) (2 : Int32))), .val (.int (5 : Int32))]) rfl ?_
            refine Go.iloadN C d0_73 rfl rfl ?_
            refine Go.iloadN C d0_74 rfl rfl ?_
            refine Go.iconst C d0_75 rfl (v := (1 : Int32)) rfl ?_
            refine Go.iushr C d0_76 rfl ?_
            refine Go.isub C d0_77 rfl ?_
            refine Go.retI C rfl d0_78 (by decide) (by decide) ?_
            have kt := Int32.toInt_lt a; have k0 : 0 < a.toInt := (by simpa [Int32.lt_iff_toInt_lt] using h1_1); have k1 : (XT.ushr a (16 : Int32)).toInt = a.toInt / 65536 := own_us (k := 16) (Int.le_of_lt k0) (by decide) (by decide); have m1 : 0 ≤ (XT.ushr a (16 : Int32)).toInt := (by omega); have k2 : (XT.ushr (XT.ushr a (16 : Int32)) (8 : Int32)).toInt = (XT.ushr a (16 : Int32)).toInt / 256 := own_us (k := 8) m1 (by decide) (by decide); have m2 : 0 ≤ (XT.ushr (XT.ushr a (16 : Int32)) (8 : Int32)).toInt := (by omega); have k3 : (XT.ushr (XT.ushr (XT.ushr a (16 : Int32)) (8 : Int32)) (2 : Int32)).toInt = (XT.ushr (XT.ushr a (16 : Int32)) (8 : Int32)).toInt / 4 := own_us (k := 2) m2 (by decide) (by decide); have m3 : 0 ≤ (XT.ushr (XT.ushr (XT.ushr a (16 : Int32)) (8 : Int32)) (2 : Int32)).toInt := (by omega); have q1 := h22_2; have q2 := h37_10; have q3 := h51_14; have q4 := h63_15; simp only [Int32.lt_iff_toInt_lt, show (65536 : Int32).toInt = 65536 from rfl, show (256 : Int32).toInt = 256 from rfl, show (16 : Int32).toInt = 16 from rfl, show (4 : Int32).toInt = 4 from rfl] at q1 q2 q3 q4; exact ⟨congrArg (fun z => some (Value.int z)) (own_nleaf (s := 26) (X := (XT.ushr (XT.ushr (XT.ushr a (16 : Int32)) (8 : Int32)) (2 : Int32))) h1_1 rfl (by decide) (by omega) (by omega) (by omega) (by decide)), rfl⟩
        · refine Go.iinc C d0_54 rfl rfl (v := (3 : Int32)) (by first | rfl | decide) (Ls' := #[.val (.int (XT.ushr (XT.ushr a (16 : Int32)) (8 : Int32))), .val (.int (3 : Int32))]) rfl ?_
          refine Go.iloadN C d0_57 rfl rfl ?_
          refine Go.iconst C d0_58 rfl (v := (4 : Int32)) rfl ?_
          refine Go.iushr C d0_59 rfl ?_
          refine Go.istoreN C d0_60 rfl (Ls' := #[.val (.int (XT.ushr (XT.ushr (XT.ushr a (16 : Int32)) (8 : Int32)) (4 : Int32))), .val (.int (3 : Int32))]) rfl ?_
          refine Go.iloadN C d0_61 rfl rfl ?_
          refine Go.iconst C d0_62 rfl (v := (4 : Int32)) rfl ?_
          refine Go.icmp C d0_63 (by decide) (q := 73) rfl (q' := 66) rfl (fun (h63_16 : (XT.ushr (XT.ushr (XT.ushr a (16 : Int32)) (8 : Int32)) (4 : Int32)) < (4 : Int32)) => ?_) (fun (h63_16 : ¬ (XT.ushr (XT.ushr (XT.ushr a (16 : Int32)) (8 : Int32)) (4 : Int32)) < (4 : Int32)) => ?_)
          · refine Go.iloadN C d0_73 rfl rfl ?_
            refine Go.iloadN C d0_74 rfl rfl ?_
            refine Go.iconst C d0_75 rfl (v := (1 : Int32)) rfl ?_
            refine Go.iushr C d0_76 rfl ?_
            refine Go.isub C d0_77 rfl ?_
            refine Go.retI C rfl d0_78 (by decide) (by decide) ?_
            have kt := Int32.toInt_lt a; have k0 : 0 < a.toInt := (by simpa [Int32.lt_iff_toInt_lt] using h1_1); have k1 : (XT.ushr a (16 : Int32)).toInt = a.toInt / 65536 := own_us (k := 16) (Int.le_of_lt k0) (by decide) (by decide); have m1 : 0 ≤ (XT.ushr a (16 : Int32)).toInt := (by omega); have k2 : (XT.ushr (XT.ushr a (16 : Int32)) (8 : Int32)).toInt = (XT.ushr a (16 : Int32)).toInt / 256 := own_us (k := 8) m1 (by decide) (by decide); have m2 : 0 ≤ (XT.ushr (XT.ushr a (16 : Int32)) (8 : Int32)).toInt := (by omega); have k3 : (XT.ushr (XT.ushr (XT.ushr a (16 : Int32)) (8 : Int32)) (4 : Int32)).toInt = (XT.ushr (XT.ushr a (16 : Int32)) (8 : Int32)).toInt / 16 := own_us (k := 4) m2 (by decide) (by decide); have m3 : 0 ≤ (XT.ushr (XT.ushr (XT.ushr a (16 : Int32)) (8 : Int32)) (4 : Int32)).toInt := (by omega); have q1 := h22_2; have q2 := h37_10; have q3 := h51_14; have q4 := h63_16; simp only [Int32.lt_iff_toInt_lt, show (65536 : Int32).toInt = 65536 from rfl, show (256 : Int32).toInt = 256 from rfl, show (16 : Int32).toInt = 16 from rfl, show (4 : Int32).toInt = 4 from rfl] at q1 q2 q3 q4; exact ⟨congrArg (fun z => some (Value.int z)) (own_nleaf (s := 28) (X := (XT.ushr (XT.ushr (XT.ushr a (16 : Int32)) (8 : Int32)) (4 : Int32))) h1_1 rfl (by decide) (by omega) (by omega) (by omega) (by decide)), rfl⟩
          · refine Go.iinc C d0_66 rfl rfl (v := (1 : Int32)) (by first | rfl | decide) (Ls' := #[.val (.int (XT.ushr (XT.ushr (XT.ushr a (16 : Int32)) (8 : Int32)) (4 : Int32))), .val (.int (1 : Int32))]) rfl ?_
            refine Go.iloadN C d0_69 rfl rfl ?_
            refine Go.iconst C d0_70 rfl (v := (2 : Int32)) rfl ?_
            refine Go.iushr C d0_71 rfl ?_
            refine Go.istoreN C d0_72 rfl (Ls' := #[.val (.int (XT.ushr (XT.ushr (XT.ushr (XT.ushr a (16 : Int32)) (8 : Int32)) (4 : Int32)) (2 : Int32))), .val (.int (1 : Int32))]) rfl ?_
            refine Go.iloadN C d0_73 rfl rfl ?_
            refine Go.iloadN C d0_74 rfl rfl ?_
            refine Go.iconst C d0_75 rfl (v := (1 : Int32)) rfl ?_
            refine Go.iushr C d0_76 rfl ?_
            refine Go.isub C d0_77 rfl ?_
            refine Go.retI C rfl d0_78 (by decide) (by decide) ?_
            have kt := Int32.toInt_lt a; have k0 : 0 < a.toInt := (by simpa [Int32.lt_iff_toInt_lt] using h1_1); have k1 : (XT.ushr a (16 : Int32)).toInt = a.toInt / 65536 := own_us (k := 16) (Int.le_of_lt k0) (by decide) (by decide); have m1 : 0 ≤ (XT.ushr a (16 : Int32)).toInt := (by omega); have k2 : (XT.ushr (XT.ushr a (16 : Int32)) (8 : Int32)).toInt = (XT.ushr a (16 : Int32)).toInt / 256 := own_us (k := 8) m1 (by decide) (by decide); have m2 : 0 ≤ (XT.ushr (XT.ushr a (16 : Int32)) (8 : Int32)).toInt := (by omega); have k3 : (XT.ushr (XT.ushr (XT.ushr a (16 : Int32)) (8 : Int32)) (4 : Int32)).toInt = (XT.ushr (XT.ushr a (16 : Int32)) (8 : Int32)).toInt / 16 := own_us (k := 4) m2 (by decide) (by decide); have m3 : 0 ≤ (XT.ushr (XT.ushr (XT.ushr a (16 : Int32)) (8 : Int32)) (4 : Int32)).toInt := (by omega); have k4 : (XT.ushr (XT.ushr (XT.ushr (XT.ushr a (16 : Int32)) (8 : Int32)) (4 : Int32)) (2 : Int32)).toInt = (XT.ushr (XT.ushr (XT.ushr a (16 : Int32)) (8 : Int32)) (4 : Int32)).toInt / 4 := own_us (k := 2) m3 (by decide) (by decide); have m4 : 0 ≤ (XT.ushr (XT.ushr (XT.ushr (XT.ushr a (16 : Int32)) (8 : Int32)) (4 : Int32)) (2 : Int32)).toInt := (by omega); have q1 := h22_2; have q2 := h37_10; have q3 := h51_14; have q4 := h63_16; simp only [Int32.lt_iff_toInt_lt, show (65536 : Int32).toInt = 65536 from rfl, show (256 : Int32).toInt = 256 from rfl, show (16 : Int32).toInt = 16 from rfl, show (4 : Int32).toInt = 4 from rfl] at q1 q2 q3 q4; exact ⟨congrArg (fun z => some (Value.int z)) (own_nleaf (s := 30) (X := (XT.ushr (XT.ushr (XT.ushr (XT.ushr a (16 : Int32)) (8 : Int32)) (4 : Int32)) (2 : Int32))) h1_1 rfl (by decide) (by omega) (by omega) (by omega) (by decide)), rfl⟩
  · refine Go.iloadN C d0_4 rfl rfl ?_
    refine Go.ifc C d0_5 (by decide) (q := 13) rfl (q' := 8) rfl (fun (h5_17 : ¬ a = 0) => ?_) (fun (h5_17 : a = 0) => ?_)
    · refine Go.iconst C d0_13 rfl (v := (0 : Int32)) rfl ?_
      refine Go.retI C rfl d0_14 (by decide) (by decide) ?_
      exact ⟨by simp [own_n32, h1_1, h5_17], rfl⟩
    · refine Go.bipush C d0_8 rfl (v := (32 : Int32)) (by decide) ?_
      refine Go.goto C d0_10 (by decide) (q := 14) rfl ?_
      refine Go.retI C rfl d0_14 (by decide) (by decide) ?_
      exact ⟨by simp [own_n32, h1_1, h5_17], rfl⟩
theorem d1_0 : decode jdk_35_method_48_code 0 = .ok (.lload_n 0, 1) := by decide +kernel
theorem d1_1 : decode jdk_35_method_48_code 1 = .ok (.bipush 32, 2) := by decide +kernel
theorem d1_3 : decode jdk_35_method_48_code 3 = .ok (.lushr, 1) := by decide +kernel
theorem d1_4 : decode jdk_35_method_48_code 4 = .ok (.l2i, 1) := by decide +kernel
theorem d1_5 : decode jdk_35_method_48_code 5 = .ok (.istore_n 2, 1) := by decide +kernel
theorem d1_6 : decode jdk_35_method_48_code 6 = .ok (.iload_n 2, 1) := by decide +kernel
theorem d1_7 : decode jdk_35_method_48_code 7 = .ok (.ifCond .ne 14, 3) := by decide +kernel
theorem d1_21 : decode jdk_35_method_48_code 21 = .ok (.iload_n 2, 1) := by decide +kernel
theorem d1_22 : decode jdk_35_method_48_code 22 = .ok (.invokestatic 308, 3) := by decide +kernel
theorem d1_25 : decode jdk_35_method_48_code 25 = .ok (.ireturn, 1) := by decide +kernel
theorem d1_10 : decode jdk_35_method_48_code 10 = .ok (.bipush 32, 2) := by decide +kernel
theorem d1_12 : decode jdk_35_method_48_code 12 = .ok (.lload_n 0, 1) := by decide +kernel
theorem d1_13 : decode jdk_35_method_48_code 13 = .ok (.l2i, 1) := by decide +kernel
theorem d1_14 : decode jdk_35_method_48_code 14 = .ok (.invokestatic 308, 3) := by decide +kernel
theorem d1_17 : decode jdk_35_method_48_code 17 = .ok (.iadd, 1) := by decide +kernel
theorem d1_18 : decode jdk_35_method_48_code 18 = .ok (.goto 7, 3) := by decide +kernel
theorem pn_1 : plainFor yN5 = true := by first | (apply plainFor_of_name; simp [plainName, overriddenIn]; done) | decide +kernel
theorem m_n64 (l : Launch) (Z : State) (a0 : Array Value) (hw : HW Z a0) (F : List Ent) {a : Int64}  :
    Met l Z yN5 jdk_35_method_48_code 3 (some .int) { frames := 1, cells := 0, slots := 0, locals := 14 } #[(.long a)] (F) (fun r M' => r = some (.int (own_n64 a)) ∧ M' = F) := by
  refine Met.of_go pn_1 (Ls := #[.val (.long a), .second, .unset]) (fun m => rfl) ?_
  intro E C
  refine Go.lloadN C d1_0 rfl rfl ?_
  refine Go.bipush C d1_1 rfl (v := (32 : Int32)) (by decide) ?_
  refine Go.lushr C d1_3 rfl ?_
  refine Go.l2i C d1_4 rfl ?_
  refine Go.istoreN C d1_5 rfl (Ls' := #[.val (.long a), .second, .val (.int (XT.ushrL a (32 : Int32)).toInt32)]) rfl ?_
  refine Go.iloadN C d1_6 rfl rfl ?_
  refine Go.ifc C d1_7 (by decide) (q := 21) rfl (q' := 10) rfl (fun (h7_1 : ¬ (XT.ushrL a (32 : Int32)).toInt32 = 0) => ?_) (fun (h7_1 : (XT.ushrL a (32 : Int32)).toInt32 = 0) => ?_)
  · refine Go.iloadN C d1_21 rfl rfl ?_
    refine Go.callS C (y := yN6) (as := [(.int (XT.ushrL a (32 : Int32)).toInt32)]) (rest := []) (wd hw 37 rfl) (wd hw 38 rfl) (wd hw 39 rfl) (wd hw 40 rfl) (m_n32 l Z a0 hw _) rfl d1_22 (q := 25) rfl (by decide) rfl (na := 1) (by decide +kernel) rfl (by decide) (W := 0) rfl (by decide) (by decide) (by decide) (k' := 0) (n' := 0) rfl rfl ?_
    rintro _ _ ⟨rfl, hMq⟩
    rw [hMq]
    show Go _ _ _ _ _ _ _ _ _ _ [(.int (own_n32 (XT.ushrL a (32 : Int32)).toInt32))]
    refine Go.retI C rfl d1_25 (by decide) (by decide) ?_
    exact ⟨congrArg (fun z => some (Value.int z)) (if_neg h7_1).symm, rfl⟩
  · refine Go.bipush C d1_10 rfl (v := (32 : Int32)) (by decide) ?_
    refine Go.lloadN C d1_12 rfl rfl ?_
    refine Go.l2i C d1_13 rfl ?_
    refine Go.callS C (y := yN6) (as := [(.int a.toInt32)]) (rest := [(.int (32 : Int32))]) (wd hw 37 rfl) (wd hw 38 rfl) (wd hw 39 rfl) (wd hw 40 rfl) (m_n32 l Z a0 hw _) rfl d1_14 (q := 17) rfl (by decide) rfl (na := 1) (by decide +kernel) rfl (by decide) (W := 1) rfl (by decide) (by decide) (by decide) (k' := 0) (n' := 0) rfl rfl ?_
    rintro _ _ ⟨rfl, hMq⟩
    rw [hMq]
    show Go _ _ _ _ _ _ _ _ _ _ [(.int (own_n32 a.toInt32)), (.int (32 : Int32))]
    refine Go.iadd C d1_17 rfl ?_
    refine Go.goto C d1_18 (by decide) (q := 25) rfl ?_
    refine Go.retI C rfl d1_25 (by decide) (by decide) ?_
    exact ⟨congrArg (fun z => some (Value.int z)) (if_pos h7_1).symm, rfl⟩
theorem d2_0 : decode jdk_33_method_48_code 0 = .ok (.iload_n 0, 1) := by decide +kernel
theorem d2_1 : decode jdk_33_method_48_code 1 = .ok (.iconst (-1), 1) := by decide +kernel
theorem d2_2 : decode jdk_33_method_48_code 2 = .ok (.ixor, 1) := by decide +kernel
theorem d2_3 : decode jdk_33_method_48_code 3 = .ok (.iload_n 0, 1) := by decide +kernel
theorem d2_4 : decode jdk_33_method_48_code 4 = .ok (.iconst 1, 1) := by decide +kernel
theorem d2_5 : decode jdk_33_method_48_code 5 = .ok (.isub, 1) := by decide +kernel
theorem d2_6 : decode jdk_33_method_48_code 6 = .ok (.iand, 1) := by decide +kernel
theorem d2_7 : decode jdk_33_method_48_code 7 = .ok (.istore_n 0, 1) := by decide +kernel
theorem d2_8 : decode jdk_33_method_48_code 8 = .ok (.iload_n 0, 1) := by decide +kernel
theorem d2_9 : decode jdk_33_method_48_code 9 = .ok (.ifCond .gt 8, 3) := by decide +kernel
theorem d2_17 : decode jdk_33_method_48_code 17 = .ok (.iconst 1, 1) := by decide +kernel
theorem d2_18 : decode jdk_33_method_48_code 18 = .ok (.istore_n 1, 1) := by decide +kernel
theorem d2_19 : decode jdk_33_method_48_code 19 = .ok (.iload_n 0, 1) := by decide +kernel
theorem d2_20 : decode jdk_33_method_48_code 20 = .ok (.ldc_w 264, 3) := by decide +kernel
theorem d2_23 : decode jdk_33_method_48_code 23 = .ok (.if_icmp .le 11, 3) := by decide +kernel
theorem d2_34 : decode jdk_33_method_48_code 34 = .ok (.iload_n 0, 1) := by decide +kernel
theorem d2_35 : decode jdk_33_method_48_code 35 = .ok (.sipush 256, 3) := by decide +kernel
theorem d2_38 : decode jdk_33_method_48_code 38 = .ok (.if_icmp .le 11, 3) := by decide +kernel
theorem d2_49 : decode jdk_33_method_48_code 49 = .ok (.iload_n 0, 1) := by decide +kernel
theorem d2_50 : decode jdk_33_method_48_code 50 = .ok (.bipush 16, 2) := by decide +kernel
theorem d2_52 : decode jdk_33_method_48_code 52 = .ok (.if_icmp .le 10, 3) := by decide +kernel
theorem d2_62 : decode jdk_33_method_48_code 62 = .ok (.iload_n 0, 1) := by decide +kernel
theorem d2_63 : decode jdk_33_method_48_code 63 = .ok (.iconst 4, 1) := by decide +kernel
theorem d2_64 : decode jdk_33_method_48_code 64 = .ok (.if_icmp .le 10, 3) := by decide +kernel
theorem d2_74 : decode jdk_33_method_48_code 74 = .ok (.iload_n 1, 1) := by decide +kernel
theorem d2_75 : decode jdk_33_method_48_code 75 = .ok (.iload_n 0, 1) := by decide +kernel
theorem d2_76 : decode jdk_33_method_48_code 76 = .ok (.iconst 1, 1) := by decide +kernel
theorem d2_77 : decode jdk_33_method_48_code 77 = .ok (.iushr, 1) := by decide +kernel
theorem d2_78 : decode jdk_33_method_48_code 78 = .ok (.iadd, 1) := by decide +kernel
theorem d2_79 : decode jdk_33_method_48_code 79 = .ok (.ireturn, 1) := by decide +kernel
theorem d2_67 : decode jdk_33_method_48_code 67 = .ok (.iinc 1 2, 3) := by decide +kernel
theorem d2_70 : decode jdk_33_method_48_code 70 = .ok (.iload_n 0, 1) := by decide +kernel
theorem d2_71 : decode jdk_33_method_48_code 71 = .ok (.iconst 2, 1) := by decide +kernel
theorem d2_72 : decode jdk_33_method_48_code 72 = .ok (.iushr, 1) := by decide +kernel
theorem d2_73 : decode jdk_33_method_48_code 73 = .ok (.istore_n 0, 1) := by decide +kernel
theorem d2_55 : decode jdk_33_method_48_code 55 = .ok (.iinc 1 4, 3) := by decide +kernel
theorem d2_58 : decode jdk_33_method_48_code 58 = .ok (.iload_n 0, 1) := by decide +kernel
theorem d2_59 : decode jdk_33_method_48_code 59 = .ok (.iconst 4, 1) := by decide +kernel
theorem d2_60 : decode jdk_33_method_48_code 60 = .ok (.iushr, 1) := by decide +kernel
theorem d2_61 : decode jdk_33_method_48_code 61 = .ok (.istore_n 0, 1) := by decide +kernel
theorem d2_41 : decode jdk_33_method_48_code 41 = .ok (.iinc 1 8, 3) := by decide +kernel
theorem d2_44 : decode jdk_33_method_48_code 44 = .ok (.iload_n 0, 1) := by decide +kernel
theorem d2_45 : decode jdk_33_method_48_code 45 = .ok (.bipush 8, 2) := by decide +kernel
theorem d2_47 : decode jdk_33_method_48_code 47 = .ok (.iushr, 1) := by decide +kernel
theorem d2_48 : decode jdk_33_method_48_code 48 = .ok (.istore_n 0, 1) := by decide +kernel
theorem d2_26 : decode jdk_33_method_48_code 26 = .ok (.iinc 1 16, 3) := by decide +kernel
theorem d2_29 : decode jdk_33_method_48_code 29 = .ok (.iload_n 0, 1) := by decide +kernel
theorem d2_30 : decode jdk_33_method_48_code 30 = .ok (.bipush 16, 2) := by decide +kernel
theorem d2_32 : decode jdk_33_method_48_code 32 = .ok (.iushr, 1) := by decide +kernel
theorem d2_33 : decode jdk_33_method_48_code 33 = .ok (.istore_n 0, 1) := by decide +kernel
theorem d2_12 : decode jdk_33_method_48_code 12 = .ok (.iload_n 0, 1) := by decide +kernel
theorem d2_13 : decode jdk_33_method_48_code 13 = .ok (.bipush 32, 2) := by decide +kernel
theorem d2_15 : decode jdk_33_method_48_code 15 = .ok (.iand, 1) := by decide +kernel
theorem d2_16 : decode jdk_33_method_48_code 16 = .ok (.ireturn, 1) := by decide +kernel
theorem pn_2 : plainFor yN17 = true := by first | (apply plainFor_of_name; simp [plainName, overriddenIn]; done) | decide +kernel
theorem m_z32 (l : Launch) (Z : State) (a0 : Array Value) (hw : HW Z a0) (F : List Ent) {a : Int32}  :
    Met l Z yN17 jdk_33_method_48_code 2 (some .int) { frames := 0, cells := 0, slots := 0, locals := 0 } #[(.int a)] (F) (fun r M' => r = some (.int (Jvm.Free.JP.Integer_numberOfTrailingZeros_I.val a)) ∧ M' = F) := by
  refine Met.of_go pn_2 (Ls := #[.val (.int a), .unset]) (fun m => rfl) ?_
  intro E C
  refine Go.iloadN C d2_0 rfl rfl ?_
  refine Go.iconst C d2_1 rfl (v := (-1 : Int32)) rfl ?_
  refine Go.ixor C d2_2 rfl ?_
  refine Go.iloadN C d2_3 rfl rfl ?_
  refine Go.iconst C d2_4 rfl (v := (1 : Int32)) rfl ?_
  refine Go.isub C d2_5 rfl ?_
  refine Go.iand C d2_6 rfl ?_
  refine Go.istoreN C d2_7 rfl (Ls' := #[.val (.int ((a ^^^ (-1 : Int32)) &&& (a - (1 : Int32)))), .unset]) rfl ?_
  refine Go.iloadN C d2_8 rfl rfl ?_
  refine Go.ifc C d2_9 (by decide) (q := 17) rfl (q' := 12) rfl (fun (h9_1 : 0 < ((a ^^^ (-1 : Int32)) &&& (a - (1 : Int32)))) => ?_) (fun (h9_1 : ¬ 0 < ((a ^^^ (-1 : Int32)) &&& (a - (1 : Int32)))) => ?_)
  · refine Go.iconst C d2_17 rfl (v := (1 : Int32)) rfl ?_
    refine Go.istoreN C d2_18 rfl (Ls' := #[.val (.int ((a ^^^ (-1 : Int32)) &&& (a - (1 : Int32)))), .val (.int (1 : Int32))]) rfl ?_
    refine Go.iloadN C d2_19 rfl rfl ?_
    refine Go.ldcWI C (v := (65536 : Int32)) (wd hw 41 rfl) d2_20 rfl ?_
    refine Go.icmp C d2_23 (by decide) (q := 34) rfl (q' := 26) rfl (fun (h23_2 : ¬ (65536 : Int32) < ((a ^^^ (-1 : Int32)) &&& (a - (1 : Int32)))) => ?_) (fun (h23_2 : (65536 : Int32) < ((a ^^^ (-1 : Int32)) &&& (a - (1 : Int32)))) => ?_)
    · refine Go.iloadN C d2_34 rfl rfl ?_
      refine Go.sipush C d2_35 rfl (v := (256 : Int32)) (by decide) ?_
      refine Go.icmp C d2_38 (by decide) (q := 49) rfl (q' := 41) rfl (fun (h38_3 : ¬ (256 : Int32) < ((a ^^^ (-1 : Int32)) &&& (a - (1 : Int32)))) => ?_) (fun (h38_3 : (256 : Int32) < ((a ^^^ (-1 : Int32)) &&& (a - (1 : Int32)))) => ?_)
      · refine Go.iloadN C d2_49 rfl rfl ?_
        refine Go.bipush C d2_50 rfl (v := (16 : Int32)) (by decide) ?_
        refine Go.icmp C d2_52 (by decide) (q := 62) rfl (q' := 55) rfl (fun (h52_4 : ¬ (16 : Int32) < ((a ^^^ (-1 : Int32)) &&& (a - (1 : Int32)))) => ?_) (fun (h52_4 : (16 : Int32) < ((a ^^^ (-1 : Int32)) &&& (a - (1 : Int32)))) => ?_)
        · refine Go.iloadN C d2_62 rfl rfl ?_
          refine Go.iconst C d2_63 rfl (v := (4 : Int32)) rfl ?_
          refine Go.icmp C d2_64 (by decide) (q := 74) rfl (q' := 67) rfl (fun (h64_5 : ¬ (4 : Int32) < ((a ^^^ (-1 : Int32)) &&& (a - (1 : Int32)))) => ?_) (fun (h64_5 : (4 : Int32) < ((a ^^^ (-1 : Int32)) &&& (a - (1 : Int32)))) => ?_)
          · refine Go.iloadN C d2_74 rfl rfl ?_
            refine Go.iloadN C d2_75 rfl rfl ?_
            refine Go.iconst C d2_76 rfl (v := (1 : Int32)) rfl ?_
            refine Go.iushr C d2_77 rfl ?_
            refine Go.iadd C d2_78 rfl ?_
            refine Go.retI C rfl d2_79 (by decide) (by decide) ?_
            exact ⟨congrArg (fun z => some (Value.int z)) (Eq.symm ((if_pos h9_1).trans ((if_neg h23_2).trans ((if_neg h38_3).trans ((if_neg h52_4).trans (if_neg h64_5)))))), rfl⟩
          · refine Go.iinc C d2_67 rfl rfl (v := (3 : Int32)) (by first | rfl | decide) (Ls' := #[.val (.int ((a ^^^ (-1 : Int32)) &&& (a - (1 : Int32)))), .val (.int (3 : Int32))]) rfl ?_
            refine Go.iloadN C d2_70 rfl rfl ?_
            refine Go.iconst C d2_71 rfl (v := (2 : Int32)) rfl ?_
            refine Go.iushr C d2_72 rfl ?_
            refine Go.istoreN C d2_73 rfl (Ls' := #[.val (.int (XT.ushr ((a ^^^ (-1 : Int32)) &&& (a - (1 : Int32))) (2 : Int32))), .val (.int (3 : Int32))]) rfl ?_
            refine Go.iloadN C d2_74 rfl rfl ?_
            refine Go.iloadN C d2_75 rfl rfl ?_
            refine Go.iconst C d2_76 rfl (v := (1 : Int32)) rfl ?_
            refine Go.iushr C d2_77 rfl ?_
            refine Go.iadd C d2_78 rfl ?_
            refine Go.retI C rfl d2_79 (by decide) (by decide) ?_
            exact ⟨congrArg (fun z => some (Value.int z)) (Eq.symm ((if_pos h9_1).trans ((if_neg h23_2).trans ((if_neg h38_3).trans ((if_neg h52_4).trans (if_pos h64_5)))))), rfl⟩
        · refine Go.iinc C d2_55 rfl rfl (v := (5 : Int32)) (by first | rfl | decide) (Ls' := #[.val (.int ((a ^^^ (-1 : Int32)) &&& (a - (1 : Int32)))), .val (.int (5 : Int32))]) rfl ?_
          refine Go.iloadN C d2_58 rfl rfl ?_
          refine Go.iconst C d2_59 rfl (v := (4 : Int32)) rfl ?_
          refine Go.iushr C d2_60 rfl ?_
          refine Go.istoreN C d2_61 rfl (Ls' := #[.val (.int (XT.ushr ((a ^^^ (-1 : Int32)) &&& (a - (1 : Int32))) (4 : Int32))), .val (.int (5 : Int32))]) rfl ?_
          refine Go.iloadN C d2_62 rfl rfl ?_
          refine Go.iconst C d2_63 rfl (v := (4 : Int32)) rfl ?_
          refine Go.icmp C d2_64 (by decide) (q := 74) rfl (q' := 67) rfl (fun (h64_6 : ¬ (4 : Int32) < (XT.ushr ((a ^^^ (-1 : Int32)) &&& (a - (1 : Int32))) (4 : Int32))) => ?_) (fun (h64_6 : (4 : Int32) < (XT.ushr ((a ^^^ (-1 : Int32)) &&& (a - (1 : Int32))) (4 : Int32))) => ?_)
          · refine Go.iloadN C d2_74 rfl rfl ?_
            refine Go.iloadN C d2_75 rfl rfl ?_
            refine Go.iconst C d2_76 rfl (v := (1 : Int32)) rfl ?_
            refine Go.iushr C d2_77 rfl ?_
            refine Go.iadd C d2_78 rfl ?_
            refine Go.retI C rfl d2_79 (by decide) (by decide) ?_
            exact ⟨congrArg (fun z => some (Value.int z)) (Eq.symm ((if_pos h9_1).trans ((if_neg h23_2).trans ((if_neg h38_3).trans ((if_pos h52_4).trans (if_neg h64_6)))))), rfl⟩
          · refine Go.iinc C d2_67 rfl rfl (v := (7 : Int32)) (by first | rfl | decide) (Ls' := #[.val (.int (XT.ushr ((a ^^^ (-1 : Int32)) &&& (a - (1 : Int32))) (4 : Int32))), .val (.int (7 : Int32))]) rfl ?_
            refine Go.iloadN C d2_70 rfl rfl ?_
            refine Go.iconst C d2_71 rfl (v := (2 : Int32)) rfl ?_
            refine Go.iushr C d2_72 rfl ?_
            refine Go.istoreN C d2_73 rfl (Ls' := #[.val (.int (XT.ushr (XT.ushr ((a ^^^ (-1 : Int32)) &&& (a - (1 : Int32))) (4 : Int32)) (2 : Int32))), .val (.int (7 : Int32))]) rfl ?_
            refine Go.iloadN C d2_74 rfl rfl ?_
            refine Go.iloadN C d2_75 rfl rfl ?_
            refine Go.iconst C d2_76 rfl (v := (1 : Int32)) rfl ?_
            refine Go.iushr C d2_77 rfl ?_
            refine Go.iadd C d2_78 rfl ?_
            refine Go.retI C rfl d2_79 (by decide) (by decide) ?_
            exact ⟨congrArg (fun z => some (Value.int z)) (Eq.symm ((if_pos h9_1).trans ((if_neg h23_2).trans ((if_neg h38_3).trans ((if_pos h52_4).trans (if_pos h64_6)))))), rfl⟩
      · refine Go.iinc C d2_41 rfl rfl (v := (9 : Int32)) (by first | rfl | decide) (Ls' := #[.val (.int ((a ^^^ (-1 : Int32)) &&& (a - (1 : Int32)))), .val (.int (9 : Int32))]) rfl ?_
        refine Go.iloadN C d2_44 rfl rfl ?_
        refine Go.bipush C d2_45 rfl (v := (8 : Int32)) (by decide) ?_
        refine Go.iushr C d2_47 rfl ?_
        refine Go.istoreN C d2_48 rfl (Ls' := #[.val (.int (XT.ushr ((a ^^^ (-1 : Int32)) &&& (a - (1 : Int32))) (8 : Int32))), .val (.int (9 : Int32))]) rfl ?_
        refine Go.iloadN C d2_49 rfl rfl ?_
        refine Go.bipush C d2_50 rfl (v := (16 : Int32)) (by decide) ?_
        refine Go.icmp C d2_52 (by decide) (q := 62) rfl (q' := 55) rfl (fun (h52_7 : ¬ (16 : Int32) < (XT.ushr ((a ^^^ (-1 : Int32)) &&& (a - (1 : Int32))) (8 : Int32))) => ?_) (fun (h52_7 : (16 : Int32) < (XT.ushr ((a ^^^ (-1 : Int32)) &&& (a - (1 : Int32))) (8 : Int32))) => ?_)
        · refine Go.iloadN C d2_62 rfl rfl ?_
          refine Go.iconst C d2_63 rfl (v := (4 : Int32)) rfl ?_
          refine Go.icmp C d2_64 (by decide) (q := 74) rfl (q' := 67) rfl (fun (h64_8 : ¬ (4 : Int32) < (XT.ushr ((a ^^^ (-1 : Int32)) &&& (a - (1 : Int32))) (8 : Int32))) => ?_) (fun (h64_8 : (4 : Int32) < (XT.ushr ((a ^^^ (-1 : Int32)) &&& (a - (1 : Int32))) (8 : Int32))) => ?_)
          · refine Go.iloadN C d2_74 rfl rfl ?_
            refine Go.iloadN C d2_75 rfl rfl ?_
            refine Go.iconst C d2_76 rfl (v := (1 : Int32)) rfl ?_
            refine Go.iushr C d2_77 rfl ?_
            refine Go.iadd C d2_78 rfl ?_
            refine Go.retI C rfl d2_79 (by decide) (by decide) ?_
            exact ⟨congrArg (fun z => some (Value.int z)) (Eq.symm ((if_pos h9_1).trans ((if_neg h23_2).trans ((if_pos h38_3).trans ((if_neg h52_7).trans (if_neg h64_8)))))), rfl⟩
          · refine Go.iinc C d2_67 rfl rfl (v := (11 : Int32)) (by first | rfl | decide) (Ls' := #[.val (.int (XT.ushr ((a ^^^ (-1 : Int32)) &&& (a - (1 : Int32))) (8 : Int32))), .val (.int (11 : Int32))]) rfl ?_
            refine Go.iloadN C d2_70 rfl rfl ?_
            refine Go.iconst C d2_71 rfl (v := (2 : Int32)) rfl ?_
            refine Go.iushr C d2_72 rfl ?_
            refine Go.istoreN C d2_73 rfl (Ls' := #[.val (.int (XT.ushr (XT.ushr ((a ^^^ (-1 : Int32)) &&& (a - (1 : Int32))) (8 : Int32)) (2 : Int32))), .val (.int (11 : Int32))]) rfl ?_
            refine Go.iloadN C d2_74 rfl rfl ?_
            refine Go.iloadN C d2_75 rfl rfl ?_
            refine Go.iconst C d2_76 rfl (v := (1 : Int32)) rfl ?_
            refine Go.iushr C d2_77 rfl ?_
            refine Go.iadd C d2_78 rfl ?_
            refine Go.retI C rfl d2_79 (by decide) (by decide) ?_
            exact ⟨congrArg (fun z => some (Value.int z)) (Eq.symm ((if_pos h9_1).trans ((if_neg h23_2).trans ((if_pos h38_3).trans ((if_neg h52_7).trans (if_pos h64_8)))))), rfl⟩
        · refine Go.iinc C d2_55 rfl rfl (v := (13 : Int32)) (by first | rfl | decide) (Ls' := #[.val (.int (XT.ushr ((a ^^^ (-1 : Int32)) &&& (a - (1 : Int32))) (8 : Int32))), .val (.int (13 : Int32))]) rfl ?_
          refine Go.iloadN C d2_58 rfl rfl ?_
          refine Go.iconst C d2_59 rfl (v := (4 : Int32)) rfl ?_
          refine Go.iushr C d2_60 rfl ?_
          refine Go.istoreN C d2_61 rfl (Ls' := #[.val (.int (XT.ushr (XT.ushr ((a ^^^ (-1 : Int32)) &&& (a - (1 : Int32))) (8 : Int32)) (4 : Int32))), .val (.int (13 : Int32))]) rfl ?_
          refine Go.iloadN C d2_62 rfl rfl ?_
          refine Go.iconst C d2_63 rfl (v := (4 : Int32)) rfl ?_
          refine Go.icmp C d2_64 (by decide) (q := 74) rfl (q' := 67) rfl (fun (h64_9 : ¬ (4 : Int32) < (XT.ushr (XT.ushr ((a ^^^ (-1 : Int32)) &&& (a - (1 : Int32))) (8 : Int32)) (4 : Int32))) => ?_) (fun (h64_9 : (4 : Int32) < (XT.ushr (XT.ushr ((a ^^^ (-1 : Int32)) &&& (a - (1 : Int32))) (8 : Int32)) (4 : Int32))) => ?_)
          · refine Go.iloadN C d2_74 rfl rfl ?_
            refine Go.iloadN C d2_75 rfl rfl ?_
            refine Go.iconst C d2_76 rfl (v := (1 : Int32)) rfl ?_
            refine Go.iushr C d2_77 rfl ?_
            refine Go.iadd C d2_78 rfl ?_
            refine Go.retI C rfl d2_79 (by decide) (by decide) ?_
            exact ⟨congrArg (fun z => some (Value.int z)) (Eq.symm ((if_pos h9_1).trans ((if_neg h23_2).trans ((if_pos h38_3).trans ((if_pos h52_7).trans (if_neg h64_9)))))), rfl⟩
          · refine Go.iinc C d2_67 rfl rfl (v := (15 : Int32)) (by first | rfl | decide) (Ls' := #[.val (.int (XT.ushr (XT.ushr ((a ^^^ (-1 : Int32)) &&& (a - (1 : Int32))) (8 : Int32)) (4 : Int32))), .val (.int (15 : Int32))]) rfl ?_
            refine Go.iloadN C d2_70 rfl rfl ?_
            refine Go.iconst C d2_71 rfl (v := (2 : Int32)) rfl ?_
            refine Go.iushr C d2_72 rfl ?_
            refine Go.istoreN C d2_73 rfl (Ls' := #[.val (.int (XT.ushr (XT.ushr (XT.ushr ((a ^^^ (-1 : Int32)) &&& (a - (1 : Int32))) (8 : Int32)) (4 : Int32)) (2 : Int32))), .val (.int (15 : Int32))]) rfl ?_
            refine Go.iloadN C d2_74 rfl rfl ?_
            refine Go.iloadN C d2_75 rfl rfl ?_
            refine Go.iconst C d2_76 rfl (v := (1 : Int32)) rfl ?_
            refine Go.iushr C d2_77 rfl ?_
            refine Go.iadd C d2_78 rfl ?_
            refine Go.retI C rfl d2_79 (by decide) (by decide) ?_
            exact ⟨congrArg (fun z => some (Value.int z)) (Eq.symm ((if_pos h9_1).trans ((if_neg h23_2).trans ((if_pos h38_3).trans ((if_pos h52_7).trans (if_pos h64_9)))))), rfl⟩
    · refine Go.iinc C d2_26 rfl rfl (v := (17 : Int32)) (by first | rfl | decide) (Ls' := #[.val (.int ((a ^^^ (-1 : Int32)) &&& (a - (1 : Int32)))), .val (.int (17 : Int32))]) rfl ?_
      refine Go.iloadN C d2_29 rfl rfl ?_
      refine Go.bipush C d2_30 rfl (v := (16 : Int32)) (by decide) ?_
      refine Go.iushr C d2_32 rfl ?_
      refine Go.istoreN C d2_33 rfl (Ls' := #[.val (.int (XT.ushr ((a ^^^ (-1 : Int32)) &&& (a - (1 : Int32))) (16 : Int32))), .val (.int (17 : Int32))]) rfl ?_
      refine Go.iloadN C d2_34 rfl rfl ?_
      refine Go.sipush C d2_35 rfl (v := (256 : Int32)) (by decide) ?_
      refine Go.icmp C d2_38 (by decide) (q := 49) rfl (q' := 41) rfl (fun (h38_10 : ¬ (256 : Int32) < (XT.ushr ((a ^^^ (-1 : Int32)) &&& (a - (1 : Int32))) (16 : Int32))) => ?_) (fun (h38_10 : (256 : Int32) < (XT.ushr ((a ^^^ (-1 : Int32)) &&& (a - (1 : Int32))) (16 : Int32))) => ?_)
      · refine Go.iloadN C d2_49 rfl rfl ?_
        refine Go.bipush C d2_50 rfl (v := (16 : Int32)) (by decide) ?_
        refine Go.icmp C d2_52 (by decide) (q := 62) rfl (q' := 55) rfl (fun (h52_11 : ¬ (16 : Int32) < (XT.ushr ((a ^^^ (-1 : Int32)) &&& (a - (1 : Int32))) (16 : Int32))) => ?_) (fun (h52_11 : (16 : Int32) < (XT.ushr ((a ^^^ (-1 : Int32)) &&& (a - (1 : Int32))) (16 : Int32))) => ?_)
        · refine Go.iloadN C d2_62 rfl rfl ?_
          refine Go.iconst C d2_63 rfl (v := (4 : Int32)) rfl ?_
          refine Go.icmp C d2_64 (by decide) (q := 74) rfl (q' := 67) rfl (fun (h64_12 : ¬ (4 : Int32) < (XT.ushr ((a ^^^ (-1 : Int32)) &&& (a - (1 : Int32))) (16 : Int32))) => ?_) (fun (h64_12 : (4 : Int32) < (XT.ushr ((a ^^^ (-1 : Int32)) &&& (a - (1 : Int32))) (16 : Int32))) => ?_)
          · refine Go.iloadN C d2_74 rfl rfl ?_
            refine Go.iloadN C d2_75 rfl rfl ?_
            refine Go.iconst C d2_76 rfl (v := (1 : Int32)) rfl ?_
            refine Go.iushr C d2_77 rfl ?_
            refine Go.iadd C d2_78 rfl ?_
            refine Go.retI C rfl d2_79 (by decide) (by decide) ?_
            exact ⟨congrArg (fun z => some (Value.int z)) (Eq.symm ((if_pos h9_1).trans ((if_pos h23_2).trans ((if_neg h38_10).trans ((if_neg h52_11).trans (if_neg h64_12)))))), rfl⟩
          · refine Go.iinc C d2_67 rfl rfl (v := (19 : Int32)) (by first | rfl | decide) (Ls' := #[.val (.int (XT.ushr ((a ^^^ (-1 : Int32)) &&& (a - (1 : Int32))) (16 : Int32))), .val (.int (19 : Int32))]) rfl ?_
            refine Go.iloadN C d2_70 rfl rfl ?_
            refine Go.iconst C d2_71 rfl (v := (2 : Int32)) rfl ?_
            refine Go.iushr C d2_72 rfl ?_
            refine Go.istoreN C d2_73 rfl (Ls' := #[.val (.int (XT.ushr (XT.ushr ((a ^^^ (-1 : Int32)) &&& (a - (1 : Int32))) (16 : Int32)) (2 : Int32))), .val (.int (19 : Int32))]) rfl ?_
            refine Go.iloadN C d2_74 rfl rfl ?_
            refine Go.iloadN C d2_75 rfl rfl ?_
            refine Go.iconst C d2_76 rfl (v := (1 : Int32)) rfl ?_
            refine Go.iushr C d2_77 rfl ?_
            refine Go.iadd C d2_78 rfl ?_
            refine Go.retI C rfl d2_79 (by decide) (by decide) ?_
            exact ⟨congrArg (fun z => some (Value.int z)) (Eq.symm ((if_pos h9_1).trans ((if_pos h23_2).trans ((if_neg h38_10).trans ((if_neg h52_11).trans (if_pos h64_12)))))), rfl⟩
        · refine Go.iinc C d2_55 rfl rfl (v := (21 : Int32)) (by first | rfl | decide) (Ls' := #[.val (.int (XT.ushr ((a ^^^ (-1 : Int32)) &&& (a - (1 : Int32))) (16 : Int32))), .val (.int (21 : Int32))]) rfl ?_
          refine Go.iloadN C d2_58 rfl rfl ?_
          refine Go.iconst C d2_59 rfl (v := (4 : Int32)) rfl ?_
          refine Go.iushr C d2_60 rfl ?_
          refine Go.istoreN C d2_61 rfl (Ls' := #[.val (.int (XT.ushr (XT.ushr ((a ^^^ (-1 : Int32)) &&& (a - (1 : Int32))) (16 : Int32)) (4 : Int32))), .val (.int (21 : Int32))]) rfl ?_
          refine Go.iloadN C d2_62 rfl rfl ?_
          refine Go.iconst C d2_63 rfl (v := (4 : Int32)) rfl ?_
          refine Go.icmp C d2_64 (by decide) (q := 74) rfl (q' := 67) rfl (fun (h64_13 : ¬ (4 : Int32) < (XT.ushr (XT.ushr ((a ^^^ (-1 : Int32)) &&& (a - (1 : Int32))) (16 : Int32)) (4 : Int32))) => ?_) (fun (h64_13 : (4 : Int32) < (XT.ushr (XT.ushr ((a ^^^ (-1 : Int32)) &&& (a - (1 : Int32))) (16 : Int32)) (4 : Int32))) => ?_)
          · refine Go.iloadN C d2_74 rfl rfl ?_
            refine Go.iloadN C d2_75 rfl rfl ?_
            refine Go.iconst C d2_76 rfl (v := (1 : Int32)) rfl ?_
            refine Go.iushr C d2_77 rfl ?_
            refine Go.iadd C d2_78 rfl ?_
            refine Go.retI C rfl d2_79 (by decide) (by decide) ?_
            exact ⟨congrArg (fun z => some (Value.int z)) (Eq.symm ((if_pos h9_1).trans ((if_pos h23_2).trans ((if_neg h38_10).trans ((if_pos h52_11).trans (if_neg h64_13)))))), rfl⟩
          · refine Go.iinc C d2_67 rfl rfl (v := (23 : Int32)) (by first | rfl | decide) (Ls' := #[.val (.int (XT.ushr (XT.ushr ((a ^^^ (-1 : Int32)) &&& (a - (1 : Int32))) (16 : Int32)) (4 : Int32))), .val (.int (23 : Int32))]) rfl ?_
            refine Go.iloadN C d2_70 rfl rfl ?_
            refine Go.iconst C d2_71 rfl (v := (2 : Int32)) rfl ?_
            refine Go.iushr C d2_72 rfl ?_
            refine Go.istoreN C d2_73 rfl (Ls' := #[.val (.int (XT.ushr (XT.ushr (XT.ushr ((a ^^^ (-1 : Int32)) &&& (a - (1 : Int32))) (16 : Int32)) (4 : Int32)) (2 : Int32))), .val (.int (23 : Int32))]) rfl ?_
            refine Go.iloadN C d2_74 rfl rfl ?_
            refine Go.iloadN C d2_75 rfl rfl ?_
            refine Go.iconst C d2_76 rfl (v := (1 : Int32)) rfl ?_
            refine Go.iushr C d2_77 rfl ?_
            refine Go.iadd C d2_78 rfl ?_
            refine Go.retI C rfl d2_79 (by decide) (by decide) ?_
            exact ⟨congrArg (fun z => some (Value.int z)) (Eq.symm ((if_pos h9_1).trans ((if_pos h23_2).trans ((if_neg h38_10).trans ((if_pos h52_11).trans (if_pos h64_13)))))), rfl⟩
      · refine Go.iinc C d2_41 rfl rfl (v := (25 : Int32)) (by first | rfl | decide) (Ls' := #[.val (.int (XT.ushr ((a ^^^ (-1 : Int32)) &&& (a - (1 : Int32))) (16 : Int32))), .val (.int (25 : Int32))]) rfl ?_
        refine Go.iloadN C d2_44 rfl rfl ?_
        refine Go.bipush C d2_45 rfl (v := (8 : Int32)) (by decide) ?_
        refine Go.iushr C d2_47 rfl ?_
        refine Go.istoreN C d2_48 rfl (Ls' := #[.val (.int (XT.ushr (XT.ushr ((a ^^^ (-1 : Int32)) &&& (a - (1 : Int32))) (16 : Int32)) (8 : Int32))), .val (.int (25 : Int32))]) rfl ?_
        refine Go.iloadN C d2_49 rfl rfl ?_
        refine Go.bipush C d2_50 rfl (v := (16 : Int32)) (by decide) ?_
        refine Go.icmp C d2_52 (by decide) (q := 62) rfl (q' := 55) rfl (fun (h52_14 : ¬ (16 : Int32) < (XT.ushr (XT.ushr ((a ^^^ (-1 : Int32)) &&& (a - (1 : Int32))) (16 : Int32)) (8 : Int32))) => ?_) (fun (h52_14 : (16 : Int32) < (XT.ushr (XT.ushr ((a ^^^ (-1 : Int32)) &&& (a - (1 : Int32))) (16 : Int32)) (8 : Int32))) => ?_)
        · refine Go.iloadN C d2_62 rfl rfl ?_
          refine Go.iconst C d2_63 rfl (v := (4 : Int32)) rfl ?_
          refine Go.icmp C d2_64 (by decide) (q := 74) rfl (q' := 67) rfl (fun (h64_15 : ¬ (4 : Int32) < (XT.ushr (XT.ushr ((a ^^^ (-1 : Int32)) &&& (a - (1 : Int32))) (16 : Int32)) (8 : Int32))) => ?_) (fun (h64_15 : (4 : Int32) < (XT.ushr (XT.ushr ((a ^^^ (-1 : Int32)) &&& (a - (1 : Int32))) (16 : Int32)) (8 : Int32))) => ?_)
          · refine Go.iloadN C d2_74 rfl rfl ?_
            refine Go.iloadN C d2_75 rfl rfl ?_
            refine Go.iconst C d2_76 rfl (v := (1 : Int32)) rfl ?_
            refine Go.iushr C d2_77 rfl ?_
            refine Go.iadd C d2_78 rfl ?_
            refine Go.retI C rfl d2_79 (by decide) (by decide) ?_
            exact ⟨congrArg (fun z => some (Value.int z)) (Eq.symm ((if_pos h9_1).trans ((if_pos h23_2).trans ((if_pos h38_10).trans ((if_neg h52_14).trans (if_neg h64_15)))))), rfl⟩
          · refine Go.iinc C d2_67 rfl rfl (v := (27 : Int32)) (by first | rfl | decide) (Ls' := #[.val (.int (XT.ushr (XT.ushr ((a ^^^ (-1 : Int32)) &&& (a - (1 : Int32))) (16 : Int32)) (8 : Int32))), .val (.int (27 : Int32))]) rfl ?_
            refine Go.iloadN C d2_70 rfl rfl ?_
            refine Go.iconst C d2_71 rfl (v := (2 : Int32)) rfl ?_
            refine Go.iushr C d2_72 rfl ?_
            refine Go.istoreN C d2_73 rfl (Ls' := #[.val (.int (XT.ushr (XT.ushr (XT.ushr ((a ^^^ (-1 : Int32)) &&& (a - (1 : Int32))) (16 : Int32)) (8 : Int32)) (2 : Int32))), .val (.int (27 : Int32))]) rfl ?_
            refine Go.iloadN C d2_74 rfl rfl ?_
            refine Go.iloadN C d2_75 rfl rfl ?_
            refine Go.iconst C d2_76 rfl (v := (1 : Int32)) rfl ?_
            refine Go.iushr C d2_77 rfl ?_
            refine Go.iadd C d2_78 rfl ?_
            refine Go.retI C rfl d2_79 (by decide) (by decide) ?_
            exact ⟨congrArg (fun z => some (Value.int z)) (Eq.symm ((if_pos h9_1).trans ((if_pos h23_2).trans ((if_pos h38_10).trans ((if_neg h52_14).trans (if_pos h64_15)))))), rfl⟩
        · refine Go.iinc C d2_55 rfl rfl (v := (29 : Int32)) (by first | rfl | decide) (Ls' := #[.val (.int (XT.ushr (XT.ushr ((a ^^^ (-1 : Int32)) &&& (a - (1 : Int32))) (16 : Int32)) (8 : Int32))), .val (.int (29 : Int32))]) rfl ?_
          refine Go.iloadN C d2_58 rfl rfl ?_
          refine Go.iconst C d2_59 rfl (v := (4 : Int32)) rfl ?_
          refine Go.iushr C d2_60 rfl ?_
          refine Go.istoreN C d2_61 rfl (Ls' := #[.val (.int (XT.ushr (XT.ushr (XT.ushr ((a ^^^ (-1 : Int32)) &&& (a - (1 : Int32))) (16 : Int32)) (8 : Int32)) (4 : Int32))), .val (.int (29 : Int32))]) rfl ?_
          refine Go.iloadN C d2_62 rfl rfl ?_
          refine Go.iconst C d2_63 rfl (v := (4 : Int32)) rfl ?_
          refine Go.icmp C d2_64 (by decide) (q := 74) rfl (q' := 67) rfl (fun (h64_16 : ¬ (4 : Int32) < (XT.ushr (XT.ushr (XT.ushr ((a ^^^ (-1 : Int32)) &&& (a - (1 : Int32))) (16 : Int32)) (8 : Int32)) (4 : Int32))) => ?_) (fun (h64_16 : (4 : Int32) < (XT.ushr (XT.ushr (XT.ushr ((a ^^^ (-1 : Int32)) &&& (a - (1 : Int32))) (16 : Int32)) (8 : Int32)) (4 : Int32))) => ?_)
          · refine Go.iloadN C d2_74 rfl rfl ?_
            refine Go.iloadN C d2_75 rfl rfl ?_
            refine Go.iconst C d2_76 rfl (v := (1 : Int32)) rfl ?_
            refine Go.iushr C d2_77 rfl ?_
            refine Go.iadd C d2_78 rfl ?_
            refine Go.retI C rfl d2_79 (by decide) (by decide) ?_
            exact ⟨congrArg (fun z => some (Value.int z)) (Eq.symm ((if_pos h9_1).trans ((if_pos h23_2).trans ((if_pos h38_10).trans ((if_pos h52_14).trans (if_neg h64_16)))))), rfl⟩
          · refine Go.iinc C d2_67 rfl rfl (v := (31 : Int32)) (by first | rfl | decide) (Ls' := #[.val (.int (XT.ushr (XT.ushr (XT.ushr ((a ^^^ (-1 : Int32)) &&& (a - (1 : Int32))) (16 : Int32)) (8 : Int32)) (4 : Int32))), .val (.int (31 : Int32))]) rfl ?_
            refine Go.iloadN C d2_70 rfl rfl ?_
            refine Go.iconst C d2_71 rfl (v := (2 : Int32)) rfl ?_
            refine Go.iushr C d2_72 rfl ?_
            refine Go.istoreN C d2_73 rfl (Ls' := #[.val (.int (XT.ushr (XT.ushr (XT.ushr (XT.ushr ((a ^^^ (-1 : Int32)) &&& (a - (1 : Int32))) (16 : Int32)) (8 : Int32)) (4 : Int32)) (2 : Int32))), .val (.int (31 : Int32))]) rfl ?_
            refine Go.iloadN C d2_74 rfl rfl ?_
            refine Go.iloadN C d2_75 rfl rfl ?_
            refine Go.iconst C d2_76 rfl (v := (1 : Int32)) rfl ?_
            refine Go.iushr C d2_77 rfl ?_
            refine Go.iadd C d2_78 rfl ?_
            refine Go.retI C rfl d2_79 (by decide) (by decide) ?_
            exact ⟨congrArg (fun z => some (Value.int z)) (Eq.symm ((if_pos h9_1).trans ((if_pos h23_2).trans ((if_pos h38_10).trans ((if_pos h52_14).trans (if_pos h64_16)))))), rfl⟩
  · refine Go.iloadN C d2_12 rfl rfl ?_
    refine Go.bipush C d2_13 rfl (v := (32 : Int32)) (by decide) ?_
    refine Go.iand C d2_15 rfl ?_
    refine Go.retI C rfl d2_16 (by decide) (by decide) ?_
    exact ⟨congrArg (fun z => some (Value.int z)) (Eq.symm (if_neg h9_1)), rfl⟩
theorem d3_0 : decode jdk_35_method_49_code 0 = .ok (.lload_n 0, 1) := by decide +kernel
theorem d3_1 : decode jdk_35_method_49_code 1 = .ok (.l2i, 1) := by decide +kernel
theorem d3_2 : decode jdk_35_method_49_code 2 = .ok (.istore_n 2, 1) := by decide +kernel
theorem d3_3 : decode jdk_35_method_49_code 3 = .ok (.iload_n 2, 1) := by decide +kernel
theorem d3_4 : decode jdk_35_method_49_code 4 = .ok (.ifCond .ne 17, 3) := by decide +kernel
theorem d3_21 : decode jdk_35_method_49_code 21 = .ok (.iload_n 2, 1) := by decide +kernel
theorem d3_22 : decode jdk_35_method_49_code 22 = .ok (.invokestatic 311, 3) := by decide +kernel
theorem d3_25 : decode jdk_35_method_49_code 25 = .ok (.ireturn, 1) := by decide +kernel
theorem d3_7 : decode jdk_35_method_49_code 7 = .ok (.bipush 32, 2) := by decide +kernel
theorem d3_9 : decode jdk_35_method_49_code 9 = .ok (.lload_n 0, 1) := by decide +kernel
theorem d3_10 : decode jdk_35_method_49_code 10 = .ok (.bipush 32, 2) := by decide +kernel
theorem d3_12 : decode jdk_35_method_49_code 12 = .ok (.lushr, 1) := by decide +kernel
theorem d3_13 : decode jdk_35_method_49_code 13 = .ok (.l2i, 1) := by decide +kernel
theorem d3_14 : decode jdk_35_method_49_code 14 = .ok (.invokestatic 311, 3) := by decide +kernel
theorem d3_17 : decode jdk_35_method_49_code 17 = .ok (.iadd, 1) := by decide +kernel
theorem d3_18 : decode jdk_35_method_49_code 18 = .ok (.goto 7, 3) := by decide +kernel
theorem pn_3 : plainFor yN16 = true := by first | (apply plainFor_of_name; simp [plainName, overriddenIn]; done) | decide +kernel
theorem m_z64 (l : Launch) (Z : State) (a0 : Array Value) (hw : HW Z a0) (F : List Ent) {a : Int64}  :
    Met l Z yN16 jdk_35_method_49_code 3 (some .int) { frames := 1, cells := 0, slots := 0, locals := 14 } #[(.long a)] (F) (fun r M' => r = some (.int (Jvm.Free.JP.Long_numberOfTrailingZeros_J.val a)) ∧ M' = F) := by
  refine Met.of_go pn_3 (Ls := #[.val (.long a), .second, .unset]) (fun m => rfl) ?_
  intro E C
  refine Go.lloadN C d3_0 rfl rfl ?_
  refine Go.l2i C d3_1 rfl ?_
  refine Go.istoreN C d3_2 rfl (Ls' := #[.val (.long a), .second, .val (.int a.toInt32)]) rfl ?_
  refine Go.iloadN C d3_3 rfl rfl ?_
  refine Go.ifc C d3_4 (by decide) (q := 21) rfl (q' := 7) rfl (fun (h4_1 : ¬ a.toInt32 = 0) => ?_) (fun (h4_1 : a.toInt32 = 0) => ?_)
  · refine Go.iloadN C d3_21 rfl rfl ?_
    refine Go.callS C (y := yN17) (as := [(.int a.toInt32)]) (rest := []) (wd hw 111 rfl) (wd hw 112 rfl) (wd hw 39 rfl) (wd hw 113 rfl) (m_z32 l Z a0 hw _) rfl d3_22 (q := 25) rfl (by decide) rfl (na := 1) (by decide +kernel) rfl (by decide) (W := 0) rfl (by decide) (by decide) (by decide) (k' := 0) (n' := 0) rfl rfl ?_
    rintro _ _ ⟨rfl, hMq⟩
    rw [hMq]
    show Go _ _ _ _ _ _ _ _ _ _ [(.int (Jvm.Free.JP.Integer_numberOfTrailingZeros_I.val a.toInt32))]
    refine Go.retI C rfl d3_25 (by decide) (by decide) ?_
    exact ⟨congrArg (fun z => some (Value.int z)) (Eq.symm (if_neg h4_1)), rfl⟩
  · refine Go.bipush C d3_7 rfl (v := (32 : Int32)) (by decide) ?_
    refine Go.lloadN C d3_9 rfl rfl ?_
    refine Go.bipush C d3_10 rfl (v := (32 : Int32)) (by decide) ?_
    refine Go.lushr C d3_12 rfl ?_
    refine Go.l2i C d3_13 rfl ?_
    refine Go.callS C (y := yN17) (as := [(.int (XT.ushrL a (32 : Int32)).toInt32)]) (rest := [(.int (32 : Int32))]) (wd hw 111 rfl) (wd hw 112 rfl) (wd hw 39 rfl) (wd hw 113 rfl) (m_z32 l Z a0 hw _) rfl d3_14 (q := 17) rfl (by decide) rfl (na := 1) (by decide +kernel) rfl (by decide) (W := 1) rfl (by decide) (by decide) (by decide) (k' := 0) (n' := 0) rfl rfl ?_
    rintro _ _ ⟨rfl, hMq⟩
    rw [hMq]
    show Go _ _ _ _ _ _ _ _ _ _ [(.int (Jvm.Free.JP.Integer_numberOfTrailingZeros_I.val (XT.ushrL a (32 : Int32)).toInt32)), (.int (32 : Int32))]
    refine Go.iadd C d3_17 rfl ?_
    refine Go.goto C d3_18 (by decide) (q := 25) rfl ?_
    refine Go.retI C rfl d3_25 (by decide) (by decide) ?_
    exact ⟨congrArg (fun z => some (Value.int z)) (Eq.symm (if_pos h4_1)), rfl⟩
theorem d4_0 : decode jdk_29_method_69_code 0 = .ok (.iload_n 0, 1) := by decide +kernel
theorem d4_1 : decode jdk_29_method_69_code 1 = .ok (.iload_n 1, 1) := by decide +kernel
theorem d4_2 : decode jdk_29_method_69_code 2 = .ok (.if_icmp .gt 7, 3) := by decide +kernel
theorem d4_9 : decode jdk_29_method_69_code 9 = .ok (.iload_n 1, 1) := by decide +kernel
theorem d4_10 : decode jdk_29_method_69_code 10 = .ok (.ireturn, 1) := by decide +kernel
theorem d4_5 : decode jdk_29_method_69_code 5 = .ok (.iload_n 0, 1) := by decide +kernel
theorem d4_6 : decode jdk_29_method_69_code 6 = .ok (.goto 4, 3) := by decide +kernel
theorem pn_4 : plainFor yN14 = true := by first | (apply plainFor_of_name; simp [plainName, overriddenIn]; done) | decide +kernel
theorem m_minI (l : Launch) (Z : State) (a0 : Array Value) (hw : HW Z a0) (F : List Ent) {u v : Int32}  :
    Met l Z yN14 jdk_29_method_69_code 2 (some .int) { frames := 0, cells := 0, slots := 0, locals := 0 } #[(.int u), (.int v)] (F) (fun r M' => r = some (.int (own_mi u v)) ∧ M' = F) := by
  refine Met.of_go pn_4 (Ls := #[.val (.int u), .val (.int v)]) (fun m => rfl) ?_
  intro E C
  refine Go.iloadN C d4_0 rfl rfl ?_
  refine Go.iloadN C d4_1 rfl rfl ?_
  refine Go.icmp C d4_2 (by decide) (q := 9) rfl (q' := 5) rfl (fun (h2_1 : v < u) => ?_) (fun (h2_1 : ¬ v < u) => ?_)
  · refine Go.iloadN C d4_9 rfl rfl ?_
    refine Go.retI C rfl d4_10 (by decide) (by decide) ?_
    exact ⟨by simp [own_mi, h2_1], rfl⟩
  · refine Go.iloadN C d4_5 rfl rfl ?_
    refine Go.goto C d4_6 (by decide) (q := 10) rfl ?_
    refine Go.retI C rfl d4_10 (by decide) (by decide) ?_
    exact ⟨by simp [own_mi, h2_1], rfl⟩
theorem d5_0 : decode jdk_29_method_66_code 0 = .ok (.lload_n 0, 1) := by decide +kernel
theorem d5_1 : decode jdk_29_method_66_code 1 = .ok (.lload_n 2, 1) := by decide +kernel
theorem d5_2 : decode jdk_29_method_66_code 2 = .ok (.lcmp, 1) := by decide +kernel
theorem d5_3 : decode jdk_29_method_66_code 3 = .ok (.ifCond .lt 7, 3) := by decide +kernel
theorem d5_10 : decode jdk_29_method_66_code 10 = .ok (.lload_n 2, 1) := by decide +kernel
theorem d5_11 : decode jdk_29_method_66_code 11 = .ok (.lreturn, 1) := by decide +kernel
theorem d5_6 : decode jdk_29_method_66_code 6 = .ok (.lload_n 0, 1) := by decide +kernel
theorem d5_7 : decode jdk_29_method_66_code 7 = .ok (.goto 4, 3) := by decide +kernel
theorem pn_5 : plainFor yN1 = true := by first | (apply plainFor_of_name; simp [plainName, overriddenIn]; done) | decide +kernel
theorem m_maxJ (l : Launch) (Z : State) (a0 : Array Value) (hw : HW Z a0) (F : List Ent) {u v : Int64}  :
    Met l Z yN1 jdk_29_method_66_code 4 (some .long) { frames := 0, cells := 0, slots := 0, locals := 0 } #[(.long u), (.long v)] (F) (fun r M' => r = some (.long (own_mx u v)) ∧ M' = F) := by
  refine Met.of_go pn_5 (Ls := #[.val (.long u), .second, .val (.long v), .second]) (fun m => rfl) ?_
  intro E C
  refine Go.lloadN C d5_0 rfl rfl ?_
  refine Go.lloadN C d5_1 rfl rfl ?_
  refine Go.lcmpif C d5_2 rfl d5_3 (by decide) (q := 10) rfl (q' := 6) rfl (fun (h2_1 : u < v) => ?_) (fun (h2_1 : ¬ u < v) => ?_)
  · refine Go.lloadN C d5_10 rfl rfl ?_
    refine Go.retL C rfl d5_11 (by decide) (by decide) ?_
    exact ⟨by simp [own_mx, h2_1], rfl⟩
  · refine Go.lloadN C d5_6 rfl rfl ?_
    refine Go.goto C d5_7 (by decide) (q := 11) rfl ?_
    refine Go.retL C rfl d5_11 (by decide) (by decide) ?_
    exact ⟨by simp [own_mx, h2_1], rfl⟩
theorem d6_0 : decode prog_12_method_12_code 0 = .ok (.bipush 63, 2) := by decide +kernel
theorem d6_2 : decode prog_12_method_12_code 2 = .ok (.lload_n 1, 1) := by decide +kernel
theorem d6_3 : decode prog_12_method_12_code 3 = .ok (.aload_n 0, 1) := by decide +kernel
theorem d6_4 : decode prog_12_method_12_code 4 = .ok (.getfield 47, 3) := by decide +kernel
theorem d6_7 : decode prog_12_method_12_code 7 = .ok (.lxor, 1) := by decide +kernel
theorem d6_8 : decode prog_12_method_12_code 8 = .ok (.lconst 1, 1) := by decide +kernel
theorem d6_9 : decode prog_12_method_12_code 9 = .ok (.lor, 1) := by decide +kernel
theorem d6_10 : decode prog_12_method_12_code 10 = .ok (.invokestatic 25, 3) := by decide +kernel
theorem d6_13 : decode prog_12_method_12_code 13 = .ok (.isub, 1) := by decide +kernel
theorem d6_14 : decode prog_12_method_12_code 14 = .ok (.aload_n 0, 1) := by decide +kernel
theorem d6_15 : decode prog_12_method_12_code 15 = .ok (.getfield 17, 3) := by decide +kernel
theorem d6_18 : decode prog_12_method_12_code 18 = .ok (.idiv, 1) := by decide +kernel
theorem d6_19 : decode prog_12_method_12_code 19 = .ok (.ireturn, 1) := by decide +kernel
theorem pn_6 : plainFor yN12 = true := by first | (apply plainFor_of_name; simp [plainName, overriddenIn]; done) | decide +kernel
theorem m_lvl (l : Launch) (Z : State) (a0 : Array Value) (hw : HW Z a0) (F : List Ent) {w sA fA cA rA : Addr} {sh : Int32} {dm : Int64} {bt rc : Int32} {tk : Int64} {lv : Int32} {D : Int64} (hsh : sh ≠ 0) (hlv : own_lv sh (D ^^^ tk) = lv) :
    Met l Z yN12 prog_12_method_12_code 3 (some .int) { frames := 2, cells := 0, slots := 0, locals := 29 } #[(.ref w), (.long D)] (wE w rA sh dm bt sA fA cA tk rc :: F) (fun r M' => r = some (.int lv) ∧ M' = (wE w rA sh dm bt sA fA cA tk rc :: F)) := by
  refine Met.of_go pn_6 (Ls := #[.val (.ref w), .val (.long D), .second]) (fun m => rfl) ?_
  intro E C
  refine Go.bipush C d6_0 rfl (v := (63 : Int32)) (by decide) ?_
  refine Go.lloadN C d6_2 rfl rfl ?_
  refine Go.aloadN C d6_3 rfl rfl rfl ?_
  refine Go.gf C (wd hw 76 rfl) 0 7 rfl rfl d6_4 rfl ?_
  refine Go.lxor C d6_7 rfl ?_
  refine Go.lconst C d6_8 rfl (v := (1 : Int64)) rfl ?_
  refine Go.lor C d6_9 rfl ?_
  refine Go.callS C (y := yN5) (as := [(.long ((D ^^^ tk) ||| (1 : Int64)))]) (rest := [(.int (63 : Int32))]) (wd hw 33 rfl) (wd hw 34 rfl) (wd hw 35 rfl) (wd hw 36 rfl) (m_n64 l Z a0 hw _) rfl d6_10 (q := 13) rfl (by decide) rfl (na := 1) (by decide +kernel) rfl (by decide) (W := 1) rfl (by decide) (by decide) (by decide) (k' := 0) (n' := 0) rfl rfl ?_
  rintro _ _ ⟨rfl, rfl⟩
  show Go _ _ _ _ _ _ _ _ _ _ [(.int (own_n64 ((D ^^^ tk) ||| (1 : Int64)))), (.int (63 : Int32))]
  refine Go.isub C d6_13 rfl ?_
  refine Go.aloadN C d6_14 rfl rfl rfl ?_
  refine Go.gf C (wd hw 29 rfl) 0 1 rfl rfl d6_15 rfl ?_
  refine Go.idiv C d6_18 rfl hsh ?_
  refine Go.retI C rfl d6_19 (by decide) (by decide) ?_
  exact ⟨congrArg (fun z => some (Value.int z)) hlv, rfl⟩
theorem d7_0 : decode prog_12_method_13_code 0 = .ok (.lload_n 1, 1) := by decide +kernel
theorem d7_1 : decode prog_12_method_13_code 1 = .ok (.iload_n 3, 1) := by decide +kernel
theorem d7_2 : decode prog_12_method_13_code 2 = .ok (.aload_n 0, 1) := by decide +kernel
theorem d7_3 : decode prog_12_method_13_code 3 = .ok (.getfield 17, 3) := by decide +kernel
theorem d7_6 : decode prog_12_method_13_code 6 = .ok (.imul, 1) := by decide +kernel
theorem d7_7 : decode prog_12_method_13_code 7 = .ok (.lushr, 1) := by decide +kernel
theorem d7_8 : decode prog_12_method_13_code 8 = .ok (.aload_n 0, 1) := by decide +kernel
theorem d7_9 : decode prog_12_method_13_code 9 = .ok (.getfield 21, 3) := by decide +kernel
theorem d7_12 : decode prog_12_method_13_code 12 = .ok (.land, 1) := by decide +kernel
theorem d7_13 : decode prog_12_method_13_code 13 = .ok (.l2i, 1) := by decide +kernel
theorem d7_14 : decode prog_12_method_13_code 14 = .ok (.ireturn, 1) := by decide +kernel
theorem pn_7 : plainFor yN13 = true := by first | (apply plainFor_of_name; simp [plainName, overriddenIn]; done) | decide +kernel
theorem m_dig (l : Launch) (Z : State) (a0 : Array Value) (hw : HW Z a0) (F : List Ent) {w sA fA cA rA : Addr} {sh : Int32} {dm : Int64} {bt rc : Int32} {tk : Int64} {lv dg : Int32} {D : Int64} (hdg : own_dg sh dm D lv = dg) :
    Met l Z yN13 prog_12_method_13_code 4 (some .int) { frames := 0, cells := 0, slots := 0, locals := 0 } #[(.ref w), (.long D), (.int lv)] (wE w rA sh dm bt sA fA cA tk rc :: F) (fun r M' => r = some (.int dg) ∧ M' = (wE w rA sh dm bt sA fA cA tk rc :: F)) := by
  refine Met.of_go pn_7 (Ls := #[.val (.ref w), .val (.long D), .second, .val (.int lv)]) (fun m => rfl) ?_
  intro E C
  refine Go.lloadN C d7_0 rfl rfl ?_
  refine Go.iloadN C d7_1 rfl rfl ?_
  refine Go.aloadN C d7_2 rfl rfl rfl ?_
  refine Go.gf C (wd hw 29 rfl) 0 1 rfl rfl d7_3 rfl ?_
  refine Go.imul C d7_6 rfl ?_
  refine Go.lushr C d7_7 rfl ?_
  refine Go.aloadN C d7_8 rfl rfl rfl ?_
  refine Go.gf C (wd hw 31 rfl) 0 2 rfl rfl d7_9 rfl ?_
  refine Go.land C d7_12 rfl ?_
  refine Go.l2i C d7_13 rfl ?_
  refine Go.retI C rfl d7_14 (by decide) (by decide) ?_
  exact ⟨congrArg (fun z => some (Value.int z)) hdg, rfl⟩
theorem d8_0 : decode prog_12_method_11_code 0 = .ok (.aload_n 0, 1) := by decide +kernel
theorem d8_1 : decode prog_12_method_11_code 1 = .ok (.getfield 39, 3) := by decide +kernel
theorem d8_4 : decode prog_12_method_11_code 4 = .ok (.iload_n 1, 1) := by decide +kernel
theorem d8_5 : decode prog_12_method_11_code 5 = .ok (.aaload, 1) := by decide +kernel
theorem d8_6 : decode prog_12_method_11_code 6 = .ok (.iload_n 2, 1) := by decide +kernel
theorem d8_7 : decode prog_12_method_11_code 7 = .ok (.bipush 6, 2) := by decide +kernel
theorem d8_9 : decode prog_12_method_11_code 9 = .ok (.iushr, 1) := by decide +kernel
theorem d8_10 : decode prog_12_method_11_code 10 = .ok (.dup2, 1) := by decide +kernel
theorem d8_11 : decode prog_12_method_11_code 11 = .ok (.laload, 1) := by decide +kernel
theorem d8_12 : decode prog_12_method_11_code 12 = .ok (.lconst 1, 1) := by decide +kernel
theorem d8_13 : decode prog_12_method_11_code 13 = .ok (.iload_n 2, 1) := by decide +kernel
theorem d8_14 : decode prog_12_method_11_code 14 = .ok (.lshl, 1) := by decide +kernel
theorem d8_15 : decode prog_12_method_11_code 15 = .ok (.ldc2_w 118, 3) := by decide +kernel
theorem d8_18 : decode prog_12_method_11_code 18 = .ok (.lxor, 1) := by decide +kernel
theorem d8_19 : decode prog_12_method_11_code 19 = .ok (.land, 1) := by decide +kernel
theorem d8_20 : decode prog_12_method_11_code 20 = .ok (.lastore, 1) := by decide +kernel
theorem d8_21 : decode prog_12_method_11_code 21 = .ok (.aload_n 0, 1) := by decide +kernel
theorem d8_22 : decode prog_12_method_11_code 22 = .ok (.getfield 43, 3) := by decide +kernel
theorem d8_25 : decode prog_12_method_11_code 25 = .ok (.iload_n 1, 1) := by decide +kernel
theorem d8_26 : decode prog_12_method_11_code 26 = .ok (.dup2, 1) := by decide +kernel
theorem d8_27 : decode prog_12_method_11_code 27 = .ok (.iaload, 1) := by decide +kernel
theorem d8_28 : decode prog_12_method_11_code 28 = .ok (.iconst 1, 1) := by decide +kernel
theorem d8_29 : decode prog_12_method_11_code 29 = .ok (.isub, 1) := by decide +kernel
theorem d8_30 : decode prog_12_method_11_code 30 = .ok (.iastore, 1) := by decide +kernel
theorem d8_31 : decode prog_12_method_11_code 31 = .ok (.return_, 1) := by decide +kernel
theorem pn_8 : plainFor yN24 = true := by first | (apply plainFor_of_name; simp [plainName, overriddenIn]; done) | decide +kernel
theorem m_clear (l : Launch) (Z : State) (a0 : Array Value) (hw : HW Z a0) (F : List Ent) {w sA fA cA rA : Addr} {sh : Int32} {dm : Int64} {bt rc : Int32} {tk : Int64} {fl : Addr} {fs cs ws : List Value} {lv dg wi c : Int32} {u : Int64} (h0 : ¬ lv < 0) (hfs : fs[lv.toNatClampNeg]? = some (.ref fl)) (hcs : cs[lv.toNatClampNeg]? = some (.int c)) (hwi : XT.ushr dg (6 : Int32) = wi) (w0 : ¬ wi < 0) (hws : ws[wi.toNatClampNeg]? = some (.long u)) :
    Met l Z yN24 prog_12_method_11_code 3 none { frames := 0, cells := 0, slots := 0, locals := 0 } #[(.ref w), (.int lv), (.int dg)] (aJ fl ws :: wE w rA sh dm bt sA fA cA tk rc :: aF fA fs :: aI cA cs :: F) (fun r M' => r = none ∧ M' = (aJ fl (ws.set wi.toNatClampNeg (.long (u &&& (((1 : Int64) <<< (dg.toInt64 &&& 63)) ^^^ (-1 : Int64))))) :: wE w rA sh dm bt sA fA cA tk rc :: aF fA fs :: aI cA (cs.set lv.toNatClampNeg (.int (c - (1 : Int32)))) :: F)) := by
  refine Met.of_go pn_8 (Ls := #[.val (.ref w), .val (.int lv), .val (.int dg)]) (fun m => rfl) ?_
  intro E C
  refine Go.aloadN C d8_0 rfl rfl rfl ?_
  refine Go.gf C (wd hw 50 rfl) 1 5 rfl rfl d8_1 rfl ?_
  refine Go.iloadN C d8_4 rfl rfl ?_
  refine Go.aaload C (fun _ r => r.arr 2 rfl) rfl h0 (v := (.ref fl)) hfs d8_5 (q := 6) rfl ?_
  refine Go.iloadN C d8_6 rfl rfl ?_
  refine Go.bipush C d8_7 rfl (v := (6 : Int32)) (by decide) ?_
  refine Go.iushr C d8_9 rfl ?_
  refine Go.castI (w := wi) hwi ?_
  refine Go.dup2 C d8_10 rfl rfl rfl ?_
  refine Go.laload C (fun _ r => r.arr 0 rfl) w0 (v := (.long u)) hws d8_11 (q := 12) rfl ?_
  refine Go.lconst C d8_12 rfl (v := (1 : Int64)) rfl ?_
  refine Go.iloadN C d8_13 rfl rfl ?_
  refine Go.lshl C d8_14 rfl ?_
  refine Go.ldc2J C (v := (-1 : Int64)) (wd hw 143 rfl) d8_15 rfl ?_
  refine Go.lxor C d8_18 rfl ?_
  refine Go.land C d8_19 rfl ?_
  refine Go.lastore C (i := 0) rfl w0 (own_lt hws) (w' := (.long (u &&& (((1 : Int64) <<< (dg.toInt64 &&& 63)) ^^^ (-1 : Int64))))) rfl d8_20 (q := 21) rfl (M' := (aJ fl (ws.set wi.toNatClampNeg (.long (u &&& (((1 : Int64) <<< (dg.toInt64 &&& 63)) ^^^ (-1 : Int64))))) :: wE w rA sh dm bt sA fA cA tk rc :: aF fA fs :: aI cA cs :: F)) rfl ?_
  refine Go.aloadN C d8_21 rfl rfl rfl ?_
  refine Go.gf C (wd hw 53 rfl) 1 6 rfl rfl d8_22 rfl ?_
  refine Go.iloadN C d8_25 rfl rfl ?_
  refine Go.dup2 C d8_26 rfl rfl rfl ?_
  refine Go.iaload C (fun _ r => r.arr 3 rfl) h0 (v := (.int c)) hcs d8_27 (q := 28) rfl ?_
  refine Go.iconst C d8_28 rfl (v := (1 : Int32)) rfl ?_
  refine Go.isub C d8_29 rfl ?_
  refine Go.iastore C (i := 3) rfl h0 (own_lt hcs) (w' := (.int (c - (1 : Int32)))) rfl d8_30 (q := 31) rfl (M' := (aJ fl (ws.set wi.toNatClampNeg (.long (u &&& (((1 : Int64) <<< (dg.toInt64 &&& 63)) ^^^ (-1 : Int64))))) :: wE w rA sh dm bt sA fA cA tk rc :: aF fA fs :: aI cA (cs.set lv.toNatClampNeg (.int (c - (1 : Int32)))) :: F)) rfl ?_
  refine Go.ret0 C rfl d8_31 (by decide) (by decide) ?_
  exact ⟨rfl, rfl⟩
theorem d9_0 : decode prog_12_method_10_code 0 = .ok (.aload_n 0, 1) := by decide +kernel
theorem d9_1 : decode prog_12_method_10_code 1 = .ok (.aload_n 1, 1) := by decide +kernel
theorem d9_2 : decode prog_12_method_10_code 2 = .ok (.getfield 56, 3) := by decide +kernel
theorem d9_5 : decode prog_12_method_10_code 5 = .ok (.invokevirtual 107, 3) := by decide +kernel
theorem d9_8 : decode prog_12_method_10_code 8 = .ok (.istore_n 2, 1) := by decide +kernel
theorem d9_9 : decode prog_12_method_10_code 9 = .ok (.aload_n 0, 1) := by decide +kernel
theorem d9_10 : decode prog_12_method_10_code 10 = .ok (.aload_n 1, 1) := by decide +kernel
theorem d9_11 : decode prog_12_method_10_code 11 = .ok (.getfield 56, 3) := by decide +kernel
theorem d9_14 : decode prog_12_method_10_code 14 = .ok (.iload_n 2, 1) := by decide +kernel
theorem d9_15 : decode prog_12_method_10_code 15 = .ok (.invokevirtual 110, 3) := by decide +kernel
theorem d9_18 : decode prog_12_method_10_code 18 = .ok (.istore_n 3, 1) := by decide +kernel
theorem d9_19 : decode prog_12_method_10_code 19 = .ok (.aload_n 0, 1) := by decide +kernel
theorem d9_20 : decode prog_12_method_10_code 20 = .ok (.getfield 33, 3) := by decide +kernel
theorem d9_23 : decode prog_12_method_10_code 23 = .ok (.iload_n 2, 1) := by decide +kernel
theorem d9_24 : decode prog_12_method_10_code 24 = .ok (.aaload, 1) := by decide +kernel
theorem d9_25 : decode prog_12_method_10_code 25 = .ok (.ifnonnull 52, 3) := by decide +kernel
theorem d9_28 : decode prog_12_method_10_code 28 = .ok (.iconst 1, 1) := by decide +kernel
theorem d9_29 : decode prog_12_method_10_code 29 = .ok (.aload_n 0, 1) := by decide +kernel
theorem d9_30 : decode prog_12_method_10_code 30 = .ok (.getfield 17, 3) := by decide +kernel
theorem d9_33 : decode prog_12_method_10_code 33 = .ok (.aload_n 0, 1) := by decide +kernel
theorem d9_34 : decode prog_12_method_10_code 34 = .ok (.getfield 29, 3) := by decide +kernel
theorem d9_37 : decode prog_12_method_10_code 37 = .ok (.iload_n 2, 1) := by decide +kernel
theorem d9_38 : decode prog_12_method_10_code 38 = .ok (.aload_n 0, 1) := by decide +kernel
theorem d9_39 : decode prog_12_method_10_code 39 = .ok (.getfield 17, 3) := by decide +kernel
theorem d9_42 : decode prog_12_method_10_code 42 = .ok (.imul, 1) := by decide +kernel
theorem d9_43 : decode prog_12_method_10_code 43 = .ok (.isub, 1) := by decide +kernel
theorem d9_44 : decode prog_12_method_10_code 44 = .ok (.invokestatic 114, 3) := by decide +kernel
theorem d9_47 : decode prog_12_method_10_code 47 = .ok (.ishl, 1) := by decide +kernel
theorem d9_48 : decode prog_12_method_10_code 48 = .ok (.istore 4, 2) := by decide +kernel
theorem d9_50 : decode prog_12_method_10_code 50 = .ok (.aload_n 0, 1) := by decide +kernel
theorem d9_51 : decode prog_12_method_10_code 51 = .ok (.getfield 33, 3) := by decide +kernel
theorem d9_54 : decode prog_12_method_10_code 54 = .ok (.iload_n 2, 1) := by decide +kernel
theorem d9_55 : decode prog_12_method_10_code 55 = .ok (.iload 4, 2) := by decide +kernel
theorem d9_57 : decode prog_12_method_10_code 57 = .ok (.anewarray 11, 3) := by decide +kernel
theorem d9_60 : decode prog_12_method_10_code 60 = .ok (.aastore, 1) := by decide +kernel
theorem d9_61 : decode prog_12_method_10_code 61 = .ok (.aload_n 0, 1) := by decide +kernel
theorem d9_62 : decode prog_12_method_10_code 62 = .ok (.getfield 39, 3) := by decide +kernel
theorem d9_65 : decode prog_12_method_10_code 65 = .ok (.iload_n 2, 1) := by decide +kernel
theorem d9_66 : decode prog_12_method_10_code 66 = .ok (.iload 4, 2) := by decide +kernel
theorem d9_68 : decode prog_12_method_10_code 68 = .ok (.bipush 63, 2) := by decide +kernel
theorem d9_70 : decode prog_12_method_10_code 70 = .ok (.iadd, 1) := by decide +kernel
theorem d9_71 : decode prog_12_method_10_code 71 = .ok (.bipush 6, 2) := by decide +kernel
theorem d9_73 : decode prog_12_method_10_code 73 = .ok (.iushr, 1) := by decide +kernel
theorem d9_74 : decode prog_12_method_10_code 74 = .ok (.newarray .long, 2) := by decide +kernel
theorem d9_76 : decode prog_12_method_10_code 76 = .ok (.aastore, 1) := by decide +kernel
theorem d9_77 : decode prog_12_method_10_code 77 = .ok (.aload_n 0, 1) := by decide +kernel
theorem d9_78 : decode prog_12_method_10_code 78 = .ok (.getfield 33, 3) := by decide +kernel
theorem d9_81 : decode prog_12_method_10_code 81 = .ok (.iload_n 2, 1) := by decide +kernel
theorem d9_82 : decode prog_12_method_10_code 82 = .ok (.aaload, 1) := by decide +kernel
theorem d9_83 : decode prog_12_method_10_code 83 = .ok (.iload_n 3, 1) := by decide +kernel
theorem d9_84 : decode prog_12_method_10_code 84 = .ok (.aaload, 1) := by decide +kernel
theorem d9_85 : decode prog_12_method_10_code 85 = .ok (.astore 4, 2) := by decide +kernel
theorem d9_87 : decode prog_12_method_10_code 87 = .ok (.aload_n 1, 1) := by decide +kernel
theorem d9_88 : decode prog_12_method_10_code 88 = .ok (.aconst_null, 1) := by decide +kernel
theorem d9_89 : decode prog_12_method_10_code 89 = .ok (.putfield 104, 3) := by decide +kernel
theorem d9_92 : decode prog_12_method_10_code 92 = .ok (.aload 4, 2) := by decide +kernel
theorem d9_94 : decode prog_12_method_10_code 94 = .ok (.ifnonnull 47, 3) := by decide +kernel
theorem d9_97 : decode prog_12_method_10_code 97 = .ok (.aload_n 1, 1) := by decide +kernel
theorem d9_98 : decode prog_12_method_10_code 98 = .ok (.aload_n 1, 1) := by decide +kernel
theorem d9_99 : decode prog_12_method_10_code 99 = .ok (.putfield 97, 3) := by decide +kernel
theorem d9_102 : decode prog_12_method_10_code 102 = .ok (.aload_n 0, 1) := by decide +kernel
theorem d9_103 : decode prog_12_method_10_code 103 = .ok (.getfield 33, 3) := by decide +kernel
theorem d9_106 : decode prog_12_method_10_code 106 = .ok (.iload_n 2, 1) := by decide +kernel
theorem d9_107 : decode prog_12_method_10_code 107 = .ok (.aaload, 1) := by decide +kernel
theorem d9_108 : decode prog_12_method_10_code 108 = .ok (.iload_n 3, 1) := by decide +kernel
theorem d9_109 : decode prog_12_method_10_code 109 = .ok (.aload_n 1, 1) := by decide +kernel
theorem d9_110 : decode prog_12_method_10_code 110 = .ok (.aastore, 1) := by decide +kernel
theorem d9_111 : decode prog_12_method_10_code 111 = .ok (.aload_n 0, 1) := by decide +kernel
theorem d9_112 : decode prog_12_method_10_code 112 = .ok (.getfield 39, 3) := by decide +kernel
theorem d9_115 : decode prog_12_method_10_code 115 = .ok (.iload_n 2, 1) := by decide +kernel
theorem d9_116 : decode prog_12_method_10_code 116 = .ok (.aaload, 1) := by decide +kernel
theorem d9_117 : decode prog_12_method_10_code 117 = .ok (.iload_n 3, 1) := by decide +kernel
theorem d9_118 : decode prog_12_method_10_code 118 = .ok (.bipush 6, 2) := by decide +kernel
theorem d9_120 : decode prog_12_method_10_code 120 = .ok (.iushr, 1) := by decide +kernel
theorem d9_121 : decode prog_12_method_10_code 121 = .ok (.dup2, 1) := by decide +kernel
theorem d9_122 : decode prog_12_method_10_code 122 = .ok (.laload, 1) := by decide +kernel
theorem d9_123 : decode prog_12_method_10_code 123 = .ok (.lconst 1, 1) := by decide +kernel
theorem d9_124 : decode prog_12_method_10_code 124 = .ok (.iload_n 3, 1) := by decide +kernel
theorem d9_125 : decode prog_12_method_10_code 125 = .ok (.lshl, 1) := by decide +kernel
theorem d9_126 : decode prog_12_method_10_code 126 = .ok (.lor, 1) := by decide +kernel
theorem d9_127 : decode prog_12_method_10_code 127 = .ok (.lastore, 1) := by decide +kernel
theorem d9_128 : decode prog_12_method_10_code 128 = .ok (.aload_n 0, 1) := by decide +kernel
theorem d9_129 : decode prog_12_method_10_code 129 = .ok (.getfield 43, 3) := by decide +kernel
theorem d9_132 : decode prog_12_method_10_code 132 = .ok (.iload_n 2, 1) := by decide +kernel
theorem d9_133 : decode prog_12_method_10_code 133 = .ok (.dup2, 1) := by decide +kernel
theorem d9_134 : decode prog_12_method_10_code 134 = .ok (.iaload, 1) := by decide +kernel
theorem d9_135 : decode prog_12_method_10_code 135 = .ok (.iconst 1, 1) := by decide +kernel
theorem d9_136 : decode prog_12_method_10_code 136 = .ok (.iadd, 1) := by decide +kernel
theorem d9_137 : decode prog_12_method_10_code 137 = .ok (.iastore, 1) := by decide +kernel
theorem d9_138 : decode prog_12_method_10_code 138 = .ok (.goto 28, 3) := by decide +kernel
theorem d9_166 : decode prog_12_method_10_code 166 = .ok (.return_, 1) := by decide +kernel
theorem pn_9 : plainFor yN11 = true := by first | (apply plainFor_of_name; simp [plainName, overriddenIn]; done) | decide +kernel
theorem m_fileA (l : Launch) (Z : State) (a0 : Array Value) (hw : HW Z a0) (F : List Ent) {w sA fA cA rA : Addr} {sh : Int32} {dm : Int64} {bt rc : Int32} {tk : Int64} {vs fs cs rv : List Value} {lv dg wi c sz wz : Int32} {D : Int64} {zc wc : Nat} {t : Addr} {nt pt : Value} {s0 : Int32} (h0 : ¬ lv < 0) (hvs : vs[lv.toNatClampNeg]? = some .null) (hfs : fs[lv.toNatClampNeg]? = some .null) (hcs : cs[lv.toNatClampNeg]? = some (.int c)) (g0 : ¬ dg < 0) (hwi : XT.ushr dg (6 : Int32) = wi) (w0 : ¬ wi < 0) (hsz : own_sz sh bt lv = sz) (hwz : XT.ushr (sz + (63 : Int32)) (6 : Int32) = wz) (hz0 : ¬ sz < 0) (hz1 : sz.toNatClampNeg ≤ zc) (hzc : zc ≤ 256) (hw0 : ¬ wz < 0) (hw1 : wz.toNatClampNeg ≤ wc) (hwc : wc ≤ 4) (hdz : dg.toNatClampNeg < sz.toNatClampNeg) (hwz1 : wi.toNatClampNeg < wz.toNatClampNeg) (hsh : sh ≠ 0) (hlv : own_lv sh (D ^^^ tk) = lv) (hdg : own_dg sh dm D lv = dg) :
    Met l Z yN11 prog_12_method_10_code 6 none { frames := 6, cells := 2, slots := zc + wc, locals := 120 } #[(.ref w), (.ref t)] (tE t .null .null D nt pt s0 :: wE w rA sh dm bt sA fA cA tk rc :: aS sA vs :: aF fA fs :: aI cA cs :: aT rA rv :: F) (fun r M' => r = none ∧ ∃ o2 : Addr, ∃ o1 : Addr, M' = (aJ o2 ((List.replicate wz.toNatClampNeg (.long 0)).set wi.toNatClampNeg (.long ((0 : Int64) ||| ((1 : Int64) <<< (dg.toInt64 &&& 63))))) :: aT o1 ((List.replicate sz.toNatClampNeg .null).set dg.toNatClampNeg (.ref t)) :: tE t .null .null D .null (.ref t) s0 :: wE w rA sh dm bt sA fA cA tk rc :: aS sA (vs.set lv.toNatClampNeg (.ref o1)) :: aF fA (fs.set lv.toNatClampNeg (.ref o2)) :: aI cA (cs.set lv.toNatClampNeg (.int (c + (1 : Int32)))) :: aT rA rv :: F)) := by
  refine Met.of_go pn_9 (Ls := #[.val (.ref w), .val (.ref t), .unset, .unset, .unset, .unset]) (fun m => rfl) ?_
  intro E C
  refine Go.aloadN C d9_0 rfl rfl rfl ?_
  refine Go.aloadN C d9_1 rfl rfl rfl ?_
  refine Go.gf C (wd hw 79 rfl) 0 2 rfl rfl d9_2 rfl ?_
  refine Go.pick (M' := (wE w rA sh dm bt sA fA cA tk rc :: tE t .null .null D nt pt s0 :: aS sA vs :: aF fA fs :: aI cA cs :: aT rA rv :: F)) 6 [1, 0, 2, 3, 4, 5] (by decide) (by decide) rfl ?_
  refine Go.callP C (y := yN12) (a := w) (as := [(.long D)]) (rest := []) (wd hw 85 rfl) (wd hw 86 rfl) (sel_priv (y := yN12) (wd hw 19 rfl) (wd hw 86 rfl) (wd hw 87 rfl) (by first | decide | exact Nat.le_of_ble_eq_true rfl | exact Nat.zero_le _)) (wd hw 87 rfl) (wd hw 88 rfl) (wd hw 20 rfl) (fun _ r => r.exa 0 rfl) (m_lvl l Z a0 hw _ hsh hlv) rfl d9_5 (q := 8) rfl (by first | decide | exact Nat.le_of_ble_eq_true rfl | exact Nat.zero_le _) rfl (na := 1) (by decide +kernel) rfl (by first | decide | exact Nat.le_of_ble_eq_true rfl | exact Nat.zero_le _) (W := 0) rfl (by first | decide | exact Nat.le_of_ble_eq_true rfl | exact Nat.zero_le _) (by first | decide | exact Nat.le_of_ble_eq_true rfl | exact Nat.zero_le _) (by first | decide | exact Nat.le_of_ble_eq_true rfl | exact Nat.zero_le _) (k' := 0) (n' := 0) rfl rfl ?_
  rintro _ _ ⟨rfl, rfl⟩
  show Go _ _ _ _ _ _ _ _ _ _ [(.int lv)]
  refine Go.istoreN C d9_8 rfl (Ls' := #[.val (.ref w), .val (.ref t), .val (.int lv), .unset, .unset, .unset]) rfl ?_
  refine Go.aloadN C d9_9 rfl rfl rfl ?_
  refine Go.aloadN C d9_10 rfl rfl rfl ?_
  refine Go.gf C (wd hw 79 rfl) 1 2 rfl rfl d9_11 rfl ?_
  refine Go.iloadN C d9_14 rfl rfl ?_
  refine Go.callP C (y := yN13) (a := w) (as := [(.long D), (.int lv)]) (rest := []) (wd hw 89 rfl) (wd hw 90 rfl) (sel_priv (y := yN13) (wd hw 19 rfl) (wd hw 90 rfl) (wd hw 91 rfl) (by first | decide | exact Nat.le_of_ble_eq_true rfl | exact Nat.zero_le _)) (wd hw 91 rfl) (wd hw 92 rfl) (wd hw 20 rfl) (fun _ r => r.exa 0 rfl) (m_dig l Z a0 hw _ hdg) rfl d9_15 (q := 18) rfl (by first | decide | exact Nat.le_of_ble_eq_true rfl | exact Nat.zero_le _) rfl (na := 2) (by decide +kernel) rfl (by first | decide | exact Nat.le_of_ble_eq_true rfl | exact Nat.zero_le _) (W := 0) rfl (by first | decide | exact Nat.le_of_ble_eq_true rfl | exact Nat.zero_le _) (by first | decide | exact Nat.le_of_ble_eq_true rfl | exact Nat.zero_le _) (by first | decide | exact Nat.le_of_ble_eq_true rfl | exact Nat.zero_le _) (k' := 0) (n' := 0) rfl rfl ?_
  rintro _ _ ⟨rfl, rfl⟩
  show Go _ _ _ _ _ _ _ _ _ _ [(.int dg)]
  refine Go.istoreN C d9_18 rfl (Ls' := #[.val (.ref w), .val (.ref t), .val (.int lv), .val (.int dg), .unset, .unset]) rfl ?_
  refine Go.aloadN C d9_19 rfl rfl rfl ?_
  refine Go.gf C (wd hw 46 rfl) 0 4 rfl rfl d9_20 rfl ?_
  refine Go.iloadN C d9_23 rfl rfl ?_
  refine Go.aaload C (fun _ r => r.arr 2 rfl) rfl h0 (v := .null) hvs d9_24 (q := 25) rfl ?_
  refine Go.nonnullNo C d9_25 (q := 28) rfl rfl ?_
  refine Go.iconst C d9_28 rfl (v := (1 : Int32)) rfl ?_
  refine Go.aloadN C d9_29 rfl rfl rfl ?_
  refine Go.gf C (wd hw 29 rfl) 0 1 rfl rfl d9_30 rfl ?_
  refine Go.aloadN C d9_33 rfl rfl rfl ?_
  refine Go.gf C (wd hw 42 rfl) 0 3 rfl rfl d9_34 rfl ?_
  refine Go.iloadN C d9_37 rfl rfl ?_
  refine Go.aloadN C d9_38 rfl rfl rfl ?_
  refine Go.gf C (wd hw 29 rfl) 0 1 rfl rfl d9_39 rfl ?_
  refine Go.imul C d9_42 rfl ?_
  refine Go.isub C d9_43 rfl ?_
  refine Go.callS C (y := yN14) (as := [(.int sh), (.int (bt - (lv * sh)))]) (rest := [(.int (1 : Int32))]) (wd hw 93 rfl) (wd hw 94 rfl) (wd hw 3 rfl) (wd hw 95 rfl) (m_minI l Z a0 hw _) rfl d9_44 (q := 47) rfl (by first | decide | exact Nat.le_of_ble_eq_true rfl | exact Nat.zero_le _) rfl (na := 2) (by decide +kernel) rfl (by first | decide | exact Nat.le_of_ble_eq_true rfl | exact Nat.zero_le _) (W := 1) rfl (by first | decide | exact Nat.le_of_ble_eq_true rfl | exact Nat.zero_le _) (by first | decide | exact Nat.le_of_ble_eq_true rfl | exact Nat.zero_le _) (by first | decide | exact Nat.le_of_ble_eq_true rfl | exact Nat.zero_le _) (k' := 0) (n' := 0) rfl rfl ?_
  rintro _ _ ⟨rfl, rfl⟩
  show Go _ _ _ _ _ _ _ _ _ _ [(.int (own_mi sh (bt - (lv * sh)))), (.int (1 : Int32))]
  refine Go.ishl C d9_47 rfl ?_
  refine Go.castI (w := sz) hsz ?_
  refine Go.istore C d9_48 rfl (Ls' := #[.val (.ref w), .val (.ref t), .val (.int lv), .val (.int dg), .val (.int sz), .unset]) rfl ?_
  refine Go.aloadN C d9_50 rfl rfl rfl ?_
  refine Go.gf C (wd hw 46 rfl) 0 4 rfl rfl d9_51 rfl ?_
  refine Go.iloadN C d9_54 rfl rfl ?_
  refine Go.iload C d9_55 rfl rfl ?_
  refine Go.anewarray C (wd hw 25 rfl) (wd hw 26 rfl) hz0 (cap := zc) hz1 (by omega) (vs := (List.replicate sz.toNatClampNeg .null)) rfl d9_57 (q := 60) rfl (Nat.le_of_ble_eq_true rfl) (show 0 + zc ≤ zc + wc by omega) (k' := 1) (n' := 0 + zc) rfl rfl (fun o1 => ?_)
  refine Go.aastoreA C (K := "[Lcom/example/charkha/charkha/Timeout;") rfl (i := 3) rfl h0 (own_lt hvs) (fun _ r => Or.inr ⟨_, rfl, Ins.self (r.exaA 0 rfl rfl)⟩) d9_60 (q := 61) rfl (M' := (aT o1 (List.replicate sz.toNatClampNeg .null) :: wE w rA sh dm bt sA fA cA tk rc :: tE t .null .null D nt pt s0 :: aS sA (vs.set lv.toNatClampNeg (.ref o1)) :: aF fA fs :: aI cA cs :: aT rA rv :: F)) rfl ?_
  refine Go.aloadN C d9_61 rfl rfl rfl ?_
  refine Go.gf C (wd hw 50 rfl) 1 5 rfl rfl d9_62 rfl ?_
  refine Go.iloadN C d9_65 rfl rfl ?_
  refine Go.iload C d9_66 rfl rfl ?_
  refine Go.bipush C d9_68 rfl (v := (63 : Int32)) (by decide) ?_
  refine Go.iadd C d9_70 rfl ?_
  refine Go.bipush C d9_71 rfl (v := (6 : Int32)) (by decide) ?_
  refine Go.iushr C d9_73 rfl ?_
  refine Go.castI (w := wz) hwz ?_
  refine Go.newarray C (ty := .long) (wd hw 97 rfl) rfl (by simp) hw0 (cap := wc) hw1 (by omega) (vs := (List.replicate wz.toNatClampNeg (.long 0))) rfl d9_74 (q := 76) rfl (Nat.le_of_ble_eq_true rfl) (show 0 + zc + wc ≤ zc + wc by omega) (k' := 2) (n' := 0 + zc + wc) rfl rfl (fun o2 => ?_)
  refine Go.aastoreA C (K := "[J") rfl (i := 5) rfl h0 (own_lt hfs) (fun _ r => Or.inr ⟨_, rfl, Ins.self (r.exaA 0 rfl rfl)⟩) d9_76 (q := 77) rfl (M' := (aJ o2 (List.replicate wz.toNatClampNeg (.long 0)) :: aT o1 (List.replicate sz.toNatClampNeg .null) :: wE w rA sh dm bt sA fA cA tk rc :: tE t .null .null D nt pt s0 :: aS sA (vs.set lv.toNatClampNeg (.ref o1)) :: aF fA (fs.set lv.toNatClampNeg (.ref o2)) :: aI cA cs :: aT rA rv :: F)) rfl ?_
  refine Go.aloadN C d9_77 rfl rfl rfl ?_
  refine Go.gf C (wd hw 46 rfl) 2 4 rfl rfl d9_78 rfl ?_
  refine Go.iloadN C d9_81 rfl rfl ?_
  refine Go.aaload C (fun _ r => r.arr 4 rfl) rfl h0 (v := (.ref o1)) (own_sets hvs) d9_82 (q := 83) rfl ?_
  refine Go.iloadN C d9_83 rfl rfl ?_
  refine Go.aaload C (fun _ r => r.arr 1 rfl) rfl g0 (v := .null) (own_repl hdz) d9_84 (q := 85) rfl ?_
  refine Go.astore C d9_85 rfl rfl (Ls' := #[.val (.ref w), .val (.ref t), .val (.int lv), .val (.int dg), .val .null, .unset]) rfl ?_
  refine Go.aloadN C d9_87 rfl rfl rfl ?_
  refine Go.aconstNull C d9_88 rfl ?_
  refine Go.pf C (wd hw 99 rfl) Via.refl 3 3 rfl rfl (wd hw 100 rfl) (wd hw 6 rfl) (ty := (.object "com/example/charkha/charkha/Timeout")) (by decide) rfl rfl d9_89 rfl (M' := (aJ o2 (List.replicate wz.toNatClampNeg (.long 0)) :: aT o1 (List.replicate sz.toNatClampNeg .null) :: wE w rA sh dm bt sA fA cA tk rc :: tE t .null .null D .null pt s0 :: aS sA (vs.set lv.toNatClampNeg (.ref o1)) :: aF fA (fs.set lv.toNatClampNeg (.ref o2)) :: aI cA cs :: aT rA rv :: F)) rfl ?_
  refine Go.aload C d9_92 rfl rfl rfl ?_
  refine Go.nonnullNo C d9_94 (q := 97) rfl rfl ?_
  refine Go.aloadN C d9_97 rfl rfl rfl ?_
  refine Go.aloadN C d9_98 rfl rfl rfl ?_
  refine Go.pf C (wd hw 101 rfl) Via.refl 3 4 rfl rfl (wd hw 102 rfl) (wd hw 6 rfl) (ty := (.object "com/example/charkha/charkha/Timeout")) (by decide) rfl rfl d9_99 rfl (M' := (aJ o2 (List.replicate wz.toNatClampNeg (.long 0)) :: aT o1 (List.replicate sz.toNatClampNeg .null) :: wE w rA sh dm bt sA fA cA tk rc :: tE t .null .null D .null (.ref t) s0 :: aS sA (vs.set lv.toNatClampNeg (.ref o1)) :: aF fA (fs.set lv.toNatClampNeg (.ref o2)) :: aI cA cs :: aT rA rv :: F)) rfl ?_
  refine Go.aloadN C d9_102 rfl rfl rfl ?_
  refine Go.gf C (wd hw 46 rfl) 2 4 rfl rfl d9_103 rfl ?_
  refine Go.iloadN C d9_106 rfl rfl ?_
  refine Go.aaload C (fun _ r => r.arr 4 rfl) rfl h0 (v := (.ref o1)) (own_sets hvs) d9_107 (q := 108) rfl ?_
  refine Go.iloadN C d9_108 rfl rfl ?_
  refine Go.aloadN C d9_109 rfl rfl rfl ?_
  refine Go.aastore C (i := 1) rfl g0 (own_lt (own_repl hdz)) (fun _ r => Or.inr ⟨_, rfl, Ins.self (r.exa 3 rfl)⟩) d9_110 (q := 111) rfl (M' := (aJ o2 (List.replicate wz.toNatClampNeg (.long 0)) :: aT o1 ((List.replicate sz.toNatClampNeg .null).set dg.toNatClampNeg (.ref t)) :: wE w rA sh dm bt sA fA cA tk rc :: tE t .null .null D .null (.ref t) s0 :: aS sA (vs.set lv.toNatClampNeg (.ref o1)) :: aF fA (fs.set lv.toNatClampNeg (.ref o2)) :: aI cA cs :: aT rA rv :: F)) rfl ?_
  refine Go.aloadN C d9_111 rfl rfl rfl ?_
  refine Go.gf C (wd hw 50 rfl) 2 5 rfl rfl d9_112 rfl ?_
  refine Go.iloadN C d9_115 rfl rfl ?_
  refine Go.aaload C (fun _ r => r.arr 5 rfl) rfl h0 (v := (.ref o2)) (own_sets hfs) d9_116 (q := 117) rfl ?_
  refine Go.iloadN C d9_117 rfl rfl ?_
  refine Go.bipush C d9_118 rfl (v := (6 : Int32)) (by decide) ?_
  refine Go.iushr C d9_120 rfl ?_
  refine Go.castI (w := wi) hwi ?_
  refine Go.dup2 C d9_121 rfl rfl rfl ?_
  refine Go.laload C (fun _ r => r.arr 0 rfl) w0 (v := (.long (0 : Int64))) (own_repl hwz1) d9_122 (q := 123) rfl ?_
  refine Go.lconst C d9_123 rfl (v := (1 : Int64)) rfl ?_
  refine Go.iloadN C d9_124 rfl rfl ?_
  refine Go.lshl C d9_125 rfl ?_
  refine Go.lor C d9_126 rfl ?_
  refine Go.lastore C (i := 0) rfl w0 (own_lt (own_repl hwz1)) (w' := (.long ((0 : Int64) ||| ((1 : Int64) <<< (dg.toInt64 &&& 63))))) rfl d9_127 (q := 128) rfl (M' := (aJ o2 ((List.replicate wz.toNatClampNeg (.long 0)).set wi.toNatClampNeg (.long ((0 : Int64) ||| ((1 : Int64) <<< (dg.toInt64 &&& 63))))) :: aT o1 ((List.replicate sz.toNatClampNeg .null).set dg.toNatClampNeg (.ref t)) :: wE w rA sh dm bt sA fA cA tk rc :: tE t .null .null D .null (.ref t) s0 :: aS sA (vs.set lv.toNatClampNeg (.ref o1)) :: aF fA (fs.set lv.toNatClampNeg (.ref o2)) :: aI cA cs :: aT rA rv :: F)) rfl ?_
  refine Go.aloadN C d9_128 rfl rfl rfl ?_
  refine Go.gf C (wd hw 53 rfl) 2 6 rfl rfl d9_129 rfl ?_
  refine Go.iloadN C d9_132 rfl rfl ?_
  refine Go.dup2 C d9_133 rfl rfl rfl ?_
  refine Go.iaload C (fun _ r => r.arr 6 rfl) h0 (v := (.int c)) hcs d9_134 (q := 135) rfl ?_
  refine Go.iconst C d9_135 rfl (v := (1 : Int32)) rfl ?_
  refine Go.iadd C d9_136 rfl ?_
  refine Go.iastore C (i := 6) rfl h0 (own_lt hcs) (w' := (.int (c + (1 : Int32)))) rfl d9_137 (q := 138) rfl (M' := (aJ o2 ((List.replicate wz.toNatClampNeg (.long 0)).set wi.toNatClampNeg (.long ((0 : Int64) ||| ((1 : Int64) <<< (dg.toInt64 &&& 63))))) :: aT o1 ((List.replicate sz.toNatClampNeg .null).set dg.toNatClampNeg (.ref t)) :: wE w rA sh dm bt sA fA cA tk rc :: tE t .null .null D .null (.ref t) s0 :: aS sA (vs.set lv.toNatClampNeg (.ref o1)) :: aF fA (fs.set lv.toNatClampNeg (.ref o2)) :: aI cA (cs.set lv.toNatClampNeg (.int (c + (1 : Int32)))) :: aT rA rv :: F)) rfl ?_
  refine Go.goto C d9_138 (by decide) (q := 166) rfl ?_
  refine Go.pick (M' := (aJ o2 ((List.replicate wz.toNatClampNeg (.long 0)).set wi.toNatClampNeg (.long ((0 : Int64) ||| ((1 : Int64) <<< (dg.toInt64 &&& 63))))) :: aT o1 ((List.replicate sz.toNatClampNeg .null).set dg.toNatClampNeg (.ref t)) :: tE t .null .null D .null (.ref t) s0 :: wE w rA sh dm bt sA fA cA tk rc :: aS sA (vs.set lv.toNatClampNeg (.ref o1)) :: aF fA (fs.set lv.toNatClampNeg (.ref o2)) :: aI cA (cs.set lv.toNatClampNeg (.int (c + (1 : Int32)))) :: aT rA rv :: F)) 8 [0, 1, 3, 2, 4, 5, 6, 7] (by decide) (by decide) rfl ?_
  refine Go.ret0 C rfl d9_166 (Nat.le_of_ble_eq_true rfl) (show 0 + zc + wc ≤ zc + wc by omega) ?_
  exact ⟨rfl, o2, o1, rfl⟩
theorem m_fileB (l : Launch) (Z : State) (a0 : Array Value) (hw : HW Z a0) (F : List Ent) {w sA fA cA rA : Addr} {sh : Int32} {dm : Int64} {bt rc : Int32} {tk : Int64} {sl fl : Addr} {vs fs cs rv hs ws : List Value} {lv dg wi c : Int32} {u D : Int64} {t : Addr} {nt pt : Value} {s0 : Int32}  (h0 : ¬ lv < 0) (hvs : vs[lv.toNatClampNeg]? = some (.ref sl)) (hfs : fs[lv.toNatClampNeg]? = some (.ref fl)) (hcs : cs[lv.toNatClampNeg]? = some (.int c)) (g0 : ¬ dg < 0) (hwi : XT.ushr dg (6 : Int32) = wi) (w0 : ¬ wi < 0) (hws : ws[wi.toNatClampNeg]? = some (.long u)) (hsh : sh ≠ 0) (hlv : own_lv sh (D ^^^ tk) = lv) (hdg : own_dg sh dm D lv = dg) (hhs : hs[dg.toNatClampNeg]? = some .null) :
    Met l Z yN11 prog_12_method_10_code 6 none { frames := 6, cells := 0, slots := 0, locals := 120 } #[(.ref w), (.ref t)] (tE t .null .null D nt pt s0 :: aT sl hs :: aJ fl ws :: wE w rA sh dm bt sA fA cA tk rc :: aS sA vs :: aF fA fs :: aI cA cs :: aT rA rv :: F) (fun r M' => r = none ∧ M' = (tE t .null .null D .null (.ref t) s0 :: aT sl (hs.set dg.toNatClampNeg (.ref t)) :: aJ fl (ws.set wi.toNatClampNeg (.long (u ||| ((1 : Int64) <<< (dg.toInt64 &&& 63))))) :: wE w rA sh dm bt sA fA cA tk rc :: aS sA vs :: aF fA fs :: aI cA (cs.set lv.toNatClampNeg (.int (c + (1 : Int32)))) :: aT rA rv :: F)) := by
  refine Met.of_go pn_9 (Ls := #[.val (.ref w), .val (.ref t), .unset, .unset, .unset, .unset]) (fun m => rfl) ?_
  intro E C
  refine Go.aloadN C d9_0 rfl rfl rfl ?_
  refine Go.aloadN C d9_1 rfl rfl rfl ?_
  refine Go.gf C (wd hw 79 rfl) 0 2 rfl rfl d9_2 rfl ?_
  refine Go.pick (M' := (wE w rA sh dm bt sA fA cA tk rc :: tE t .null .null D nt pt s0 :: aT sl hs :: aJ fl ws :: aS sA vs :: aF fA fs :: aI cA cs :: aT rA rv :: F)) 8 [3, 0, 1, 2, 4, 5, 6, 7] (by decide) (by decide) rfl ?_
  refine Go.callP C (y := yN12) (a := w) (as := [(.long D)]) (rest := []) (wd hw 85 rfl) (wd hw 86 rfl) (sel_priv (y := yN12) (wd hw 19 rfl) (wd hw 86 rfl) (wd hw 87 rfl) (by decide)) (wd hw 87 rfl) (wd hw 88 rfl) (wd hw 20 rfl) (fun _ r => r.exa 0 rfl) (m_lvl l Z a0 hw _ hsh hlv) rfl d9_5 (q := 8) rfl (by decide) rfl (na := 1) (by decide +kernel) rfl (by decide) (W := 0) rfl (by decide) (by decide) (by decide) (k' := 0) (n' := 0) rfl rfl ?_
  rintro _ _ ⟨rfl, rfl⟩
  show Go _ _ _ _ _ _ _ _ _ _ [(.int lv)]
  refine Go.istoreN C d9_8 rfl (Ls' := #[.val (.ref w), .val (.ref t), .val (.int lv), .unset, .unset, .unset]) rfl ?_
  refine Go.aloadN C d9_9 rfl rfl rfl ?_
  refine Go.aloadN C d9_10 rfl rfl rfl ?_
  refine Go.gf C (wd hw 79 rfl) 1 2 rfl rfl d9_11 rfl ?_
  refine Go.iloadN C d9_14 rfl rfl ?_
  refine Go.callP C (y := yN13) (a := w) (as := [(.long D), (.int lv)]) (rest := []) (wd hw 89 rfl) (wd hw 90 rfl) (sel_priv (y := yN13) (wd hw 19 rfl) (wd hw 90 rfl) (wd hw 91 rfl) (by decide)) (wd hw 91 rfl) (wd hw 92 rfl) (wd hw 20 rfl) (fun _ r => r.exa 0 rfl) (m_dig l Z a0 hw _ hdg) rfl d9_15 (q := 18) rfl (by decide) rfl (na := 2) (by decide +kernel) rfl (by decide) (W := 0) rfl (by decide) (by decide) (by decide) (k' := 0) (n' := 0) rfl rfl ?_
  rintro _ _ ⟨rfl, rfl⟩
  show Go _ _ _ _ _ _ _ _ _ _ [(.int dg)]
  refine Go.istoreN C d9_18 rfl (Ls' := #[.val (.ref w), .val (.ref t), .val (.int lv), .val (.int dg), .unset, .unset]) rfl ?_
  refine Go.aloadN C d9_19 rfl rfl rfl ?_
  refine Go.gf C (wd hw 46 rfl) 0 4 rfl rfl d9_20 rfl ?_
  refine Go.iloadN C d9_23 rfl rfl ?_
  refine Go.aaload C (fun _ r => r.arr 4 rfl) rfl h0 (v := (.ref sl)) hvs d9_24 (q := 25) rfl ?_
  refine Go.nonnullYes C d9_25 (by decide) (q := 77) rfl rfl (by simp) ?_
  refine Go.aloadN C d9_77 rfl rfl rfl ?_
  refine Go.gf C (wd hw 46 rfl) 0 4 rfl rfl d9_78 rfl ?_
  refine Go.iloadN C d9_81 rfl rfl ?_
  refine Go.aaload C (fun _ r => r.arr 4 rfl) rfl h0 (v := (.ref sl)) hvs d9_82 (q := 83) rfl ?_
  refine Go.iloadN C d9_83 rfl rfl ?_
  refine Go.aaload C (fun _ r => r.arr 2 rfl) rfl g0 (v := .null) hhs d9_84 (q := 85) rfl ?_
  refine Go.astore C d9_85 rfl rfl (Ls' := #[.val (.ref w), .val (.ref t), .val (.int lv), .val (.int dg), .val .null, .unset]) rfl ?_
  refine Go.aloadN C d9_87 rfl rfl rfl ?_
  refine Go.aconstNull C d9_88 rfl ?_
  refine Go.pf C (wd hw 99 rfl) Via.refl 1 3 rfl rfl (wd hw 100 rfl) (wd hw 6 rfl) (ty := (.object "com/example/charkha/charkha/Timeout")) (by decide) rfl rfl d9_89 rfl (M' := (wE w rA sh dm bt sA fA cA tk rc :: tE t .null .null D .null pt s0 :: aT sl hs :: aJ fl ws :: aS sA vs :: aF fA fs :: aI cA cs :: aT rA rv :: F)) rfl ?_
  refine Go.aload C d9_92 rfl rfl rfl ?_
  refine Go.nonnullNo C d9_94 (q := 97) rfl rfl ?_
  refine Go.aloadN C d9_97 rfl rfl rfl ?_
  refine Go.aloadN C d9_98 rfl rfl rfl ?_
  refine Go.pf C (wd hw 101 rfl) Via.refl 1 4 rfl rfl (wd hw 102 rfl) (wd hw 6 rfl) (ty := (.object "com/example/charkha/charkha/Timeout")) (by decide) rfl rfl d9_99 rfl (M' := (wE w rA sh dm bt sA fA cA tk rc :: tE t .null .null D .null (.ref t) s0 :: aT sl hs :: aJ fl ws :: aS sA vs :: aF fA fs :: aI cA cs :: aT rA rv :: F)) rfl ?_
  refine Go.aloadN C d9_102 rfl rfl rfl ?_
  refine Go.gf C (wd hw 46 rfl) 0 4 rfl rfl d9_103 rfl ?_
  refine Go.iloadN C d9_106 rfl rfl ?_
  refine Go.aaload C (fun _ r => r.arr 4 rfl) rfl h0 (v := (.ref sl)) hvs d9_107 (q := 108) rfl ?_
  refine Go.iloadN C d9_108 rfl rfl ?_
  refine Go.aloadN C d9_109 rfl rfl rfl ?_
  refine Go.aastore C (i := 2) rfl g0 (own_lt hhs) (fun _ r => Or.inr ⟨_, rfl, Ins.self (r.exa 1 rfl)⟩) d9_110 (q := 111) rfl (M' := (wE w rA sh dm bt sA fA cA tk rc :: tE t .null .null D .null (.ref t) s0 :: aT sl (hs.set dg.toNatClampNeg (.ref t)) :: aJ fl ws :: aS sA vs :: aF fA fs :: aI cA cs :: aT rA rv :: F)) rfl ?_
  refine Go.aloadN C d9_111 rfl rfl rfl ?_
  refine Go.gf C (wd hw 50 rfl) 0 5 rfl rfl d9_112 rfl ?_
  refine Go.iloadN C d9_115 rfl rfl ?_
  refine Go.aaload C (fun _ r => r.arr 5 rfl) rfl h0 (v := (.ref fl)) hfs d9_116 (q := 117) rfl ?_
  refine Go.iloadN C d9_117 rfl rfl ?_
  refine Go.bipush C d9_118 rfl (v := (6 : Int32)) (by decide) ?_
  refine Go.iushr C d9_120 rfl ?_
  refine Go.castI (w := wi) hwi ?_
  refine Go.dup2 C d9_121 rfl rfl rfl ?_
  refine Go.laload C (fun _ r => r.arr 3 rfl) w0 (v := (.long u)) hws d9_122 (q := 123) rfl ?_
  refine Go.lconst C d9_123 rfl (v := (1 : Int64)) rfl ?_
  refine Go.iloadN C d9_124 rfl rfl ?_
  refine Go.lshl C d9_125 rfl ?_
  refine Go.lor C d9_126 rfl ?_
  refine Go.lastore C (i := 3) rfl w0 (own_lt hws) (w' := (.long (u ||| ((1 : Int64) <<< (dg.toInt64 &&& 63))))) rfl d9_127 (q := 128) rfl (M' := (wE w rA sh dm bt sA fA cA tk rc :: tE t .null .null D .null (.ref t) s0 :: aT sl (hs.set dg.toNatClampNeg (.ref t)) :: aJ fl (ws.set wi.toNatClampNeg (.long (u ||| ((1 : Int64) <<< (dg.toInt64 &&& 63))))) :: aS sA vs :: aF fA fs :: aI cA cs :: aT rA rv :: F)) rfl ?_
  refine Go.aloadN C d9_128 rfl rfl rfl ?_
  refine Go.gf C (wd hw 53 rfl) 0 6 rfl rfl d9_129 rfl ?_
  refine Go.iloadN C d9_132 rfl rfl ?_
  refine Go.dup2 C d9_133 rfl rfl rfl ?_
  refine Go.iaload C (fun _ r => r.arr 6 rfl) h0 (v := (.int c)) hcs d9_134 (q := 135) rfl ?_
  refine Go.iconst C d9_135 rfl (v := (1 : Int32)) rfl ?_
  refine Go.iadd C d9_136 rfl ?_
  refine Go.iastore C (i := 6) rfl h0 (own_lt hcs) (w' := (.int (c + (1 : Int32)))) rfl d9_137 (q := 138) rfl (M' := (wE w rA sh dm bt sA fA cA tk rc :: tE t .null .null D .null (.ref t) s0 :: aT sl (hs.set dg.toNatClampNeg (.ref t)) :: aJ fl (ws.set wi.toNatClampNeg (.long (u ||| ((1 : Int64) <<< (dg.toInt64 &&& 63))))) :: aS sA vs :: aF fA fs :: aI cA (cs.set lv.toNatClampNeg (.int (c + (1 : Int32)))) :: aT rA rv :: F)) rfl ?_
  refine Go.goto C d9_138 (by decide) (q := 166) rfl ?_
  refine Go.pick (M' := (tE t .null .null D .null (.ref t) s0 :: aT sl (hs.set dg.toNatClampNeg (.ref t)) :: aJ fl (ws.set wi.toNatClampNeg (.long (u ||| ((1 : Int64) <<< (dg.toInt64 &&& 63))))) :: wE w rA sh dm bt sA fA cA tk rc :: aS sA vs :: aF fA fs :: aI cA (cs.set lv.toNatClampNeg (.int (c + (1 : Int32)))) :: aT rA rv :: F)) 8 [1, 2, 3, 0, 4, 5, 6, 7] (by decide) (by decide) rfl ?_
  refine Go.ret0 C rfl d9_166 (by decide) (by decide) ?_
  exact ⟨rfl, rfl⟩
theorem d9_141 : decode prog_12_method_10_code 141 = .ok (.aload 4, 2) := by decide +kernel
theorem d9_143 : decode prog_12_method_10_code 143 = .ok (.getfield 97, 3) := by decide +kernel
theorem d9_146 : decode prog_12_method_10_code 146 = .ok (.astore 5, 2) := by decide +kernel
theorem d9_148 : decode prog_12_method_10_code 148 = .ok (.aload 5, 2) := by decide +kernel
theorem d9_150 : decode prog_12_method_10_code 150 = .ok (.aload_n 1, 1) := by decide +kernel
theorem d9_151 : decode prog_12_method_10_code 151 = .ok (.putfield 104, 3) := by decide +kernel
theorem d9_154 : decode prog_12_method_10_code 154 = .ok (.aload_n 1, 1) := by decide +kernel
theorem d9_155 : decode prog_12_method_10_code 155 = .ok (.aload 5, 2) := by decide +kernel
theorem d9_157 : decode prog_12_method_10_code 157 = .ok (.putfield 97, 3) := by decide +kernel
theorem d9_160 : decode prog_12_method_10_code 160 = .ok (.aload 4, 2) := by decide +kernel
theorem d9_162 : decode prog_12_method_10_code 162 = .ok (.aload_n 1, 1) := by decide +kernel
theorem d9_163 : decode prog_12_method_10_code 163 = .ok (.putfield 97, 3) := by decide +kernel
theorem m_fileC (l : Launch) (Z : State) (a0 : Array Value) (hw : HW Z a0) (F : List Ent) {w sA fA cA rA : Addr} {sh : Int32} {dm : Int64} {bt rc : Int32} {tk : Int64} {sl fl : Addr} {vs fs cs rv hs ws : List Value} {lv dg wi c : Int32} {u D : Int64} {t : Addr} {nt pt : Value} {s0 : Int32} {a : Addr} {Da : Int64} {na : Value} {s1 : Int32} (h0 : ¬ lv < 0) (hvs : vs[lv.toNatClampNeg]? = some (.ref sl)) (hfs : fs[lv.toNatClampNeg]? = some (.ref fl)) (hcs : cs[lv.toNatClampNeg]? = some (.int c)) (g0 : ¬ dg < 0) (hwi : XT.ushr dg (6 : Int32) = wi) (w0 : ¬ wi < 0) (hws : ws[wi.toNatClampNeg]? = some (.long u)) (hsh : sh ≠ 0) (hlv : own_lv sh (D ^^^ tk) = lv) (hdg : own_dg sh dm D lv = dg) (hhs : hs[dg.toNatClampNeg]? = some (.ref a)) :
    Met l Z yN11 prog_12_method_10_code 6 none { frames := 6, cells := 0, slots := 0, locals := 120 } #[(.ref w), (.ref t)] (tE t .null .null D nt pt s0 :: tE a .null .null Da na (.ref a) s1 :: aT sl hs :: aJ fl ws :: wE w rA sh dm bt sA fA cA tk rc :: aS sA vs :: aF fA fs :: aI cA cs :: aT rA rv :: F) (fun r M' => r = none ∧ M' = (tE t .null .null D .null (.ref a) s0 :: tE a .null .null Da (.ref t) (.ref t) s1 :: aT sl hs :: aJ fl ws :: wE w rA sh dm bt sA fA cA tk rc :: aS sA vs :: aF fA fs :: aI cA cs :: aT rA rv :: F)) := by
  refine Met.of_go pn_9 (Ls := #[.val (.ref w), .val (.ref t), .unset, .unset, .unset, .unset]) (fun m => rfl) ?_
  intro E C
  refine Go.aloadN C d9_0 rfl rfl rfl ?_
  refine Go.aloadN C d9_1 rfl rfl rfl ?_
  refine Go.gf C (wd hw 79 rfl) 0 2 rfl rfl d9_2 rfl ?_
  refine Go.pick (M' := (wE w rA sh dm bt sA fA cA tk rc :: tE t .null .null D nt pt s0 :: tE a .null .null Da na (.ref a) s1 :: aT sl hs :: aJ fl ws :: aS sA vs :: aF fA fs :: aI cA cs :: aT rA rv :: F)) 9 [4, 0, 1, 2, 3, 5, 6, 7, 8] (by decide) (by decide) rfl ?_
  refine Go.callP C (y := yN12) (a := w) (as := [(.long D)]) (rest := []) (wd hw 85 rfl) (wd hw 86 rfl) (sel_priv (y := yN12) (wd hw 19 rfl) (wd hw 86 rfl) (wd hw 87 rfl) (by decide)) (wd hw 87 rfl) (wd hw 88 rfl) (wd hw 20 rfl) (fun _ r => r.exa 0 rfl) (m_lvl l Z a0 hw _ hsh hlv) rfl d9_5 (q := 8) rfl (by decide) rfl (na := 1) (by decide +kernel) rfl (by decide) (W := 0) rfl (by decide) (by decide) (by decide) (k' := 0) (n' := 0) rfl rfl ?_
  rintro _ _ ⟨rfl, rfl⟩
  show Go _ _ _ _ _ _ _ _ _ _ [(.int lv)]
  refine Go.istoreN C d9_8 rfl (Ls' := #[.val (.ref w), .val (.ref t), .val (.int lv), .unset, .unset, .unset]) rfl ?_
  refine Go.aloadN C d9_9 rfl rfl rfl ?_
  refine Go.aloadN C d9_10 rfl rfl rfl ?_
  refine Go.gf C (wd hw 79 rfl) 1 2 rfl rfl d9_11 rfl ?_
  refine Go.iloadN C d9_14 rfl rfl ?_
  refine Go.callP C (y := yN13) (a := w) (as := [(.long D), (.int lv)]) (rest := []) (wd hw 89 rfl) (wd hw 90 rfl) (sel_priv (y := yN13) (wd hw 19 rfl) (wd hw 90 rfl) (wd hw 91 rfl) (by decide)) (wd hw 91 rfl) (wd hw 92 rfl) (wd hw 20 rfl) (fun _ r => r.exa 0 rfl) (m_dig l Z a0 hw _ hdg) rfl d9_15 (q := 18) rfl (by decide) rfl (na := 2) (by decide +kernel) rfl (by decide) (W := 0) rfl (by decide) (by decide) (by decide) (k' := 0) (n' := 0) rfl rfl ?_
  rintro _ _ ⟨rfl, rfl⟩
  show Go _ _ _ _ _ _ _ _ _ _ [(.int dg)]
  refine Go.istoreN C d9_18 rfl (Ls' := #[.val (.ref w), .val (.ref t), .val (.int lv), .val (.int dg), .unset, .unset]) rfl ?_
  refine Go.aloadN C d9_19 rfl rfl rfl ?_
  refine Go.gf C (wd hw 46 rfl) 0 4 rfl rfl d9_20 rfl ?_
  refine Go.iloadN C d9_23 rfl rfl ?_
  refine Go.aaload C (fun _ r => r.arr 5 rfl) rfl h0 (v := (.ref sl)) hvs d9_24 (q := 25) rfl ?_
  refine Go.nonnullYes C d9_25 (by decide) (q := 77) rfl rfl (by simp) ?_
  refine Go.aloadN C d9_77 rfl rfl rfl ?_
  refine Go.gf C (wd hw 46 rfl) 0 4 rfl rfl d9_78 rfl ?_
  refine Go.iloadN C d9_81 rfl rfl ?_
  refine Go.aaload C (fun _ r => r.arr 5 rfl) rfl h0 (v := (.ref sl)) hvs d9_82 (q := 83) rfl ?_
  refine Go.iloadN C d9_83 rfl rfl ?_
  refine Go.aaload C (fun _ r => r.arr 3 rfl) rfl g0 (v := (.ref a)) hhs d9_84 (q := 85) rfl ?_
  refine Go.astore C d9_85 rfl rfl (Ls' := #[.val (.ref w), .val (.ref t), .val (.int lv), .val (.int dg), .val (.ref a), .unset]) rfl ?_
  refine Go.aloadN C d9_87 rfl rfl rfl ?_
  refine Go.aconstNull C d9_88 rfl ?_
  refine Go.pf C (wd hw 99 rfl) Via.refl 1 3 rfl rfl (wd hw 100 rfl) (wd hw 6 rfl) (ty := (.object "com/example/charkha/charkha/Timeout")) (by decide) rfl rfl d9_89 rfl (M' := (wE w rA sh dm bt sA fA cA tk rc :: tE t .null .null D .null pt s0 :: tE a .null .null Da na (.ref a) s1 :: aT sl hs :: aJ fl ws :: aS sA vs :: aF fA fs :: aI cA cs :: aT rA rv :: F)) rfl ?_
  refine Go.aload C d9_92 rfl rfl rfl ?_
  refine Go.nonnullYes C d9_94 (by decide) (q := 141) rfl rfl (by simp) ?_
  refine Go.aload C d9_141 rfl rfl rfl ?_
  refine Go.gf C (wd hw 101 rfl) 2 4 rfl rfl d9_143 rfl ?_
  refine Go.astore C d9_146 rfl rfl (Ls' := #[.val (.ref w), .val (.ref t), .val (.int lv), .val (.int dg), .val (.ref a), .val (.ref a)]) rfl ?_
  refine Go.aload C d9_148 rfl rfl rfl ?_
  refine Go.aloadN C d9_150 rfl rfl rfl ?_
  refine Go.pf C (wd hw 99 rfl) Via.refl 2 3 rfl rfl (wd hw 100 rfl) (wd hw 6 rfl) (ty := (.object "com/example/charkha/charkha/Timeout")) (by decide) rfl rfl d9_151 rfl (M' := (wE w rA sh dm bt sA fA cA tk rc :: tE t .null .null D .null pt s0 :: tE a .null .null Da (.ref t) (.ref a) s1 :: aT sl hs :: aJ fl ws :: aS sA vs :: aF fA fs :: aI cA cs :: aT rA rv :: F)) rfl ?_
  refine Go.aloadN C d9_154 rfl rfl rfl ?_
  refine Go.aload C d9_155 rfl rfl rfl ?_
  refine Go.pf C (wd hw 101 rfl) Via.refl 1 4 rfl rfl (wd hw 102 rfl) (wd hw 6 rfl) (ty := (.object "com/example/charkha/charkha/Timeout")) (by decide) rfl rfl d9_157 rfl (M' := (wE w rA sh dm bt sA fA cA tk rc :: tE t .null .null D .null (.ref a) s0 :: tE a .null .null Da (.ref t) (.ref a) s1 :: aT sl hs :: aJ fl ws :: aS sA vs :: aF fA fs :: aI cA cs :: aT rA rv :: F)) rfl ?_
  refine Go.aload C d9_160 rfl rfl rfl ?_
  refine Go.aloadN C d9_162 rfl rfl rfl ?_
  refine Go.pf C (wd hw 101 rfl) Via.refl 2 4 rfl rfl (wd hw 102 rfl) (wd hw 6 rfl) (ty := (.object "com/example/charkha/charkha/Timeout")) (by decide) rfl rfl d9_163 rfl (M' := (wE w rA sh dm bt sA fA cA tk rc :: tE t .null .null D .null (.ref a) s0 :: tE a .null .null Da (.ref t) (.ref t) s1 :: aT sl hs :: aJ fl ws :: aS sA vs :: aF fA fs :: aI cA cs :: aT rA rv :: F)) rfl ?_
  refine Go.pick (M' := (tE t .null .null D .null (.ref a) s0 :: tE a .null .null Da (.ref t) (.ref t) s1 :: aT sl hs :: aJ fl ws :: wE w rA sh dm bt sA fA cA tk rc :: aS sA vs :: aF fA fs :: aI cA cs :: aT rA rv :: F)) 9 [1, 2, 3, 4, 0, 5, 6, 7, 8] (by decide) (by decide) rfl ?_
  refine Go.ret0 C rfl d9_166 (by decide) (by decide) ?_
  exact ⟨rfl, rfl⟩
theorem m_fileD (l : Launch) (Z : State) (a0 : Array Value) (hw : HW Z a0) (F : List Ent) {w sA fA cA rA : Addr} {sh : Int32} {dm : Int64} {bt rc : Int32} {tk : Int64} {sl fl : Addr} {vs fs cs rv hs ws : List Value} {lv dg wi c : Int32} {u D : Int64} {t : Addr} {nt pt : Value} {s0 : Int32} {a : Addr} {Da : Int64} {na : Value} {s1 : Int32} {b : Addr} {Db : Int64} {nb pb : Value} {s2 : Int32} (h0 : ¬ lv < 0) (hvs : vs[lv.toNatClampNeg]? = some (.ref sl)) (hfs : fs[lv.toNatClampNeg]? = some (.ref fl)) (hcs : cs[lv.toNatClampNeg]? = some (.int c)) (g0 : ¬ dg < 0) (hwi : XT.ushr dg (6 : Int32) = wi) (w0 : ¬ wi < 0) (hws : ws[wi.toNatClampNeg]? = some (.long u)) (hsh : sh ≠ 0) (hlv : own_lv sh (D ^^^ tk) = lv) (hdg : own_dg sh dm D lv = dg) (hhs : hs[dg.toNatClampNeg]? = some (.ref a)) :
    Met l Z yN11 prog_12_method_10_code 6 none { frames := 6, cells := 0, slots := 0, locals := 120 } #[(.ref w), (.ref t)] (tE t .null .null D nt pt s0 :: tE a .null .null Da na (.ref b) s1 :: tE b .null .null Db nb pb s2 :: aT sl hs :: aJ fl ws :: wE w rA sh dm bt sA fA cA tk rc :: aS sA vs :: aF fA fs :: aI cA cs :: aT rA rv :: F) (fun r M' => r = none ∧ M' = (tE t .null .null D .null (.ref b) s0 :: tE a .null .null Da na (.ref t) s1 :: tE b .null .null Db (.ref t) pb s2 :: aT sl hs :: aJ fl ws :: wE w rA sh dm bt sA fA cA tk rc :: aS sA vs :: aF fA fs :: aI cA cs :: aT rA rv :: F)) := by
  refine Met.of_go pn_9 (Ls := #[.val (.ref w), .val (.ref t), .unset, .unset, .unset, .unset]) (fun m => rfl) ?_
  intro E C
  refine Go.aloadN C d9_0 rfl rfl rfl ?_
  refine Go.aloadN C d9_1 rfl rfl rfl ?_
  refine Go.gf C (wd hw 79 rfl) 0 2 rfl rfl d9_2 rfl ?_
  refine Go.pick (M' := (wE w rA sh dm bt sA fA cA tk rc :: tE t .null .null D nt pt s0 :: tE a .null .null Da na (.ref b) s1 :: tE b .null .null Db nb pb s2 :: aT sl hs :: aJ fl ws :: aS sA vs :: aF fA fs :: aI cA cs :: aT rA rv :: F)) 10 [5, 0, 1, 2, 3, 4, 6, 7, 8, 9] (by decide) (by decide) rfl ?_
  refine Go.callP C (y := yN12) (a := w) (as := [(.long D)]) (rest := []) (wd hw 85 rfl) (wd hw 86 rfl) (sel_priv (y := yN12) (wd hw 19 rfl) (wd hw 86 rfl) (wd hw 87 rfl) (by decide)) (wd hw 87 rfl) (wd hw 88 rfl) (wd hw 20 rfl) (fun _ r => r.exa 0 rfl) (m_lvl l Z a0 hw _ hsh hlv) rfl d9_5 (q := 8) rfl (by decide) rfl (na := 1) (by decide +kernel) rfl (by decide) (W := 0) rfl (by decide) (by decide) (by decide) (k' := 0) (n' := 0) rfl rfl ?_
  rintro _ _ ⟨rfl, rfl⟩
  show Go _ _ _ _ _ _ _ _ _ _ [(.int lv)]
  refine Go.istoreN C d9_8 rfl (Ls' := #[.val (.ref w), .val (.ref t), .val (.int lv), .unset, .unset, .unset]) rfl ?_
  refine Go.aloadN C d9_9 rfl rfl rfl ?_
  refine Go.aloadN C d9_10 rfl rfl rfl ?_
  refine Go.gf C (wd hw 79 rfl) 1 2 rfl rfl d9_11 rfl ?_
  refine Go.iloadN C d9_14 rfl rfl ?_
  refine Go.callP C (y := yN13) (a := w) (as := [(.long D), (.int lv)]) (rest := []) (wd hw 89 rfl) (wd hw 90 rfl) (sel_priv (y := yN13) (wd hw 19 rfl) (wd hw 90 rfl) (wd hw 91 rfl) (by decide)) (wd hw 91 rfl) (wd hw 92 rfl) (wd hw 20 rfl) (fun _ r => r.exa 0 rfl) (m_dig l Z a0 hw _ hdg) rfl d9_15 (q := 18) rfl (by decide) rfl (na := 2) (by decide +kernel) rfl (by decide) (W := 0) rfl (by decide) (by decide) (by decide) (k' := 0) (n' := 0) rfl rfl ?_
  rintro _ _ ⟨rfl, rfl⟩
  show Go _ _ _ _ _ _ _ _ _ _ [(.int dg)]
  refine Go.istoreN C d9_18 rfl (Ls' := #[.val (.ref w), .val (.ref t), .val (.int lv), .val (.int dg), .unset, .unset]) rfl ?_
  refine Go.aloadN C d9_19 rfl rfl rfl ?_
  refine Go.gf C (wd hw 46 rfl) 0 4 rfl rfl d9_20 rfl ?_
  refine Go.iloadN C d9_23 rfl rfl ?_
  refine Go.aaload C (fun _ r => r.arr 6 rfl) rfl h0 (v := (.ref sl)) hvs d9_24 (q := 25) rfl ?_
  refine Go.nonnullYes C d9_25 (by decide) (q := 77) rfl rfl (by simp) ?_
  refine Go.aloadN C d9_77 rfl rfl rfl ?_
  refine Go.gf C (wd hw 46 rfl) 0 4 rfl rfl d9_78 rfl ?_
  refine Go.iloadN C d9_81 rfl rfl ?_
  refine Go.aaload C (fun _ r => r.arr 6 rfl) rfl h0 (v := (.ref sl)) hvs d9_82 (q := 83) rfl ?_
  refine Go.iloadN C d9_83 rfl rfl ?_
  refine Go.aaload C (fun _ r => r.arr 4 rfl) rfl g0 (v := (.ref a)) hhs d9_84 (q := 85) rfl ?_
  refine Go.astore C d9_85 rfl rfl (Ls' := #[.val (.ref w), .val (.ref t), .val (.int lv), .val (.int dg), .val (.ref a), .unset]) rfl ?_
  refine Go.aloadN C d9_87 rfl rfl rfl ?_
  refine Go.aconstNull C d9_88 rfl ?_
  refine Go.pf C (wd hw 99 rfl) Via.refl 1 3 rfl rfl (wd hw 100 rfl) (wd hw 6 rfl) (ty := (.object "com/example/charkha/charkha/Timeout")) (by decide) rfl rfl d9_89 rfl (M' := (wE w rA sh dm bt sA fA cA tk rc :: tE t .null .null D .null pt s0 :: tE a .null .null Da na (.ref b) s1 :: tE b .null .null Db nb pb s2 :: aT sl hs :: aJ fl ws :: aS sA vs :: aF fA fs :: aI cA cs :: aT rA rv :: F)) rfl ?_
  refine Go.aload C d9_92 rfl rfl rfl ?_
  refine Go.nonnullYes C d9_94 (by decide) (q := 141) rfl rfl (by simp) ?_
  refine Go.aload C d9_141 rfl rfl rfl ?_
  refine Go.gf C (wd hw 101 rfl) 2 4 rfl rfl d9_143 rfl ?_
  refine Go.astore C d9_146 rfl rfl (Ls' := #[.val (.ref w), .val (.ref t), .val (.int lv), .val (.int dg), .val (.ref a), .val (.ref b)]) rfl ?_
  refine Go.aload C d9_148 rfl rfl rfl ?_
  refine Go.aloadN C d9_150 rfl rfl rfl ?_
  refine Go.pf C (wd hw 99 rfl) Via.refl 3 3 rfl rfl (wd hw 100 rfl) (wd hw 6 rfl) (ty := (.object "com/example/charkha/charkha/Timeout")) (by decide) rfl rfl d9_151 rfl (M' := (wE w rA sh dm bt sA fA cA tk rc :: tE t .null .null D .null pt s0 :: tE a .null .null Da na (.ref b) s1 :: tE b .null .null Db (.ref t) pb s2 :: aT sl hs :: aJ fl ws :: aS sA vs :: aF fA fs :: aI cA cs :: aT rA rv :: F)) rfl ?_
  refine Go.aloadN C d9_154 rfl rfl rfl ?_
  refine Go.aload C d9_155 rfl rfl rfl ?_
  refine Go.pf C (wd hw 101 rfl) Via.refl 1 4 rfl rfl (wd hw 102 rfl) (wd hw 6 rfl) (ty := (.object "com/example/charkha/charkha/Timeout")) (by decide) rfl rfl d9_157 rfl (M' := (wE w rA sh dm bt sA fA cA tk rc :: tE t .null .null D .null (.ref b) s0 :: tE a .null .null Da na (.ref b) s1 :: tE b .null .null Db (.ref t) pb s2 :: aT sl hs :: aJ fl ws :: aS sA vs :: aF fA fs :: aI cA cs :: aT rA rv :: F)) rfl ?_
  refine Go.aload C d9_160 rfl rfl rfl ?_
  refine Go.aloadN C d9_162 rfl rfl rfl ?_
  refine Go.pf C (wd hw 101 rfl) Via.refl 2 4 rfl rfl (wd hw 102 rfl) (wd hw 6 rfl) (ty := (.object "com/example/charkha/charkha/Timeout")) (by decide) rfl rfl d9_163 rfl (M' := (wE w rA sh dm bt sA fA cA tk rc :: tE t .null .null D .null (.ref b) s0 :: tE a .null .null Da na (.ref t) s1 :: tE b .null .null Db (.ref t) pb s2 :: aT sl hs :: aJ fl ws :: aS sA vs :: aF fA fs :: aI cA cs :: aT rA rv :: F)) rfl ?_
  refine Go.pick (M' := (tE t .null .null D .null (.ref b) s0 :: tE a .null .null Da na (.ref t) s1 :: tE b .null .null Db (.ref t) pb s2 :: aT sl hs :: aJ fl ws :: wE w rA sh dm bt sA fA cA tk rc :: aS sA vs :: aF fA fs :: aI cA cs :: aT rA rv :: F)) 10 [1, 2, 3, 4, 5, 0, 6, 7, 8, 9] (by decide) (by decide) rfl ?_
  refine Go.ret0 C rfl d9_166 (by decide) (by decide) ?_
  exact ⟨rfl, rfl⟩
theorem d10_0 : decode prog_12_method_9_code 0 = .ok (.aload_n 0, 1) := by decide +kernel
theorem d10_1 : decode prog_12_method_9_code 1 = .ok (.aload_n 1, 1) := by decide +kernel
theorem d10_2 : decode prog_12_method_9_code 2 = .ok (.getfield 56, 3) := by decide +kernel
theorem d10_5 : decode prog_12_method_9_code 5 = .ok (.invokevirtual 107, 3) := by decide +kernel
theorem d10_8 : decode prog_12_method_9_code 8 = .ok (.istore_n 2, 1) := by decide +kernel
theorem d10_9 : decode prog_12_method_9_code 9 = .ok (.aload_n 0, 1) := by decide +kernel
theorem d10_10 : decode prog_12_method_9_code 10 = .ok (.aload_n 1, 1) := by decide +kernel
theorem d10_11 : decode prog_12_method_9_code 11 = .ok (.getfield 56, 3) := by decide +kernel
theorem d10_14 : decode prog_12_method_9_code 14 = .ok (.iload_n 2, 1) := by decide +kernel
theorem d10_15 : decode prog_12_method_9_code 15 = .ok (.invokevirtual 110, 3) := by decide +kernel
theorem d10_18 : decode prog_12_method_9_code 18 = .ok (.istore_n 3, 1) := by decide +kernel
theorem d10_19 : decode prog_12_method_9_code 19 = .ok (.aload_n 0, 1) := by decide +kernel
theorem d10_20 : decode prog_12_method_9_code 20 = .ok (.getfield 33, 3) := by decide +kernel
theorem d10_23 : decode prog_12_method_9_code 23 = .ok (.iload_n 2, 1) := by decide +kernel
theorem d10_24 : decode prog_12_method_9_code 24 = .ok (.aaload, 1) := by decide +kernel
theorem d10_25 : decode prog_12_method_9_code 25 = .ok (.iload_n 3, 1) := by decide +kernel
theorem d10_26 : decode prog_12_method_9_code 26 = .ok (.aaload, 1) := by decide +kernel
theorem d10_27 : decode prog_12_method_9_code 27 = .ok (.astore 4, 2) := by decide +kernel
theorem d10_29 : decode prog_12_method_9_code 29 = .ok (.aload_n 1, 1) := by decide +kernel
theorem d10_30 : decode prog_12_method_9_code 30 = .ok (.aload 4, 2) := by decide +kernel
theorem d10_32 : decode prog_12_method_9_code 32 = .ok (.if_acmp .ne 45, 3) := by decide +kernel
theorem d10_35 : decode prog_12_method_9_code 35 = .ok (.aload_n 1, 1) := by decide +kernel
theorem d10_36 : decode prog_12_method_9_code 36 = .ok (.getfield 104, 3) := by decide +kernel
theorem d10_39 : decode prog_12_method_9_code 39 = .ok (.astore 5, 2) := by decide +kernel
theorem d10_41 : decode prog_12_method_9_code 41 = .ok (.aload_n 0, 1) := by decide +kernel
theorem d10_42 : decode prog_12_method_9_code 42 = .ok (.getfield 33, 3) := by decide +kernel
theorem d10_45 : decode prog_12_method_9_code 45 = .ok (.iload_n 2, 1) := by decide +kernel
theorem d10_46 : decode prog_12_method_9_code 46 = .ok (.aaload, 1) := by decide +kernel
theorem d10_47 : decode prog_12_method_9_code 47 = .ok (.iload_n 3, 1) := by decide +kernel
theorem d10_48 : decode prog_12_method_9_code 48 = .ok (.aload 5, 2) := by decide +kernel
theorem d10_50 : decode prog_12_method_9_code 50 = .ok (.aastore, 1) := by decide +kernel
theorem d10_51 : decode prog_12_method_9_code 51 = .ok (.aload 5, 2) := by decide +kernel
theorem d10_53 : decode prog_12_method_9_code 53 = .ok (.ifnonnull 12, 3) := by decide +kernel
theorem d10_56 : decode prog_12_method_9_code 56 = .ok (.aload_n 0, 1) := by decide +kernel
theorem d10_57 : decode prog_12_method_9_code 57 = .ok (.iload_n 2, 1) := by decide +kernel
theorem d10_58 : decode prog_12_method_9_code 58 = .ok (.iload_n 3, 1) := by decide +kernel
theorem d10_59 : decode prog_12_method_9_code 59 = .ok (.invokevirtual 101, 3) := by decide +kernel
theorem d10_62 : decode prog_12_method_9_code 62 = .ok (.goto 12, 3) := by decide +kernel
theorem d10_74 : decode prog_12_method_9_code 74 = .ok (.goto 44, 3) := by decide +kernel
theorem d10_118 : decode prog_12_method_9_code 118 = .ok (.aload_n 1, 1) := by decide +kernel
theorem d10_119 : decode prog_12_method_9_code 119 = .ok (.aconst_null, 1) := by decide +kernel
theorem d10_120 : decode prog_12_method_9_code 120 = .ok (.putfield 97, 3) := by decide +kernel
theorem d10_123 : decode prog_12_method_9_code 123 = .ok (.aload_n 1, 1) := by decide +kernel
theorem d10_124 : decode prog_12_method_9_code 124 = .ok (.aconst_null, 1) := by decide +kernel
theorem d10_125 : decode prog_12_method_9_code 125 = .ok (.putfield 104, 3) := by decide +kernel
theorem d10_128 : decode prog_12_method_9_code 128 = .ok (.return_, 1) := by decide +kernel
theorem pn_10 : plainFor yN23 = true := by first | (apply plainFor_of_name; simp [plainName, overriddenIn]; done) | decide +kernel
theorem m_unlA (l : Launch) (Z : State) (a0 : Array Value) (hw : HW Z a0) (F : List Ent) {w sA fA cA rA : Addr} {sh : Int32} {dm : Int64} {bt rc : Int32} {tk : Int64} {sl fl : Addr} {vs fs cs rv hs ws : List Value} {lv dg wi c : Int32} {u D : Int64} {t : Addr} {s0 : Int32} {pt : Value} (h0 : ¬ lv < 0) (hvs : vs[lv.toNatClampNeg]? = some (.ref sl)) (hfs : fs[lv.toNatClampNeg]? = some (.ref fl)) (hcs : cs[lv.toNatClampNeg]? = some (.int c)) (g0 : ¬ dg < 0) (hwi : XT.ushr dg (6 : Int32) = wi) (w0 : ¬ wi < 0) (hws : ws[wi.toNatClampNeg]? = some (.long u)) (hsh : sh ≠ 0) (hlv : own_lv sh (D ^^^ tk) = lv) (hdg : own_dg sh dm D lv = dg) (hhs : hs[dg.toNatClampNeg]? = some (.ref t)) :
    Met l Z yN23 prog_12_method_9_code 6 none { frames := 6, cells := 0, slots := 0, locals := 120 } #[(.ref w), (.ref t)] (tE t .null .null D .null pt s0 :: aT sl hs :: aJ fl ws :: wE w rA sh dm bt sA fA cA tk rc :: aS sA vs :: aF fA fs :: aI cA cs :: aT rA rv :: F) (fun r M' => r = none ∧ M' = (tE t .null .null D .null .null s0 :: aT sl (hs.set dg.toNatClampNeg .null) :: aJ fl (ws.set wi.toNatClampNeg (.long (u &&& (((1 : Int64) <<< (dg.toInt64 &&& 63)) ^^^ (-1 : Int64))))) :: wE w rA sh dm bt sA fA cA tk rc :: aS sA vs :: aF fA fs :: aI cA (cs.set lv.toNatClampNeg (.int (c - (1 : Int32)))) :: aT rA rv :: F)) := by
  refine Met.of_go pn_10 (Ls := #[.val (.ref w), .val (.ref t), .unset, .unset, .unset, .unset]) (fun m => rfl) ?_
  intro E C
  refine Go.aloadN C d10_0 rfl rfl rfl ?_
  refine Go.aloadN C d10_1 rfl rfl rfl ?_
  refine Go.gf C (wd hw 79 rfl) 0 2 rfl rfl d10_2 rfl ?_
  refine Go.pick (M' := (wE w rA sh dm bt sA fA cA tk rc :: tE t .null .null D .null pt s0 :: aT sl hs :: aJ fl ws :: aS sA vs :: aF fA fs :: aI cA cs :: aT rA rv :: F)) 8 [3, 0, 1, 2, 4, 5, 6, 7] (by decide) (by decide) rfl ?_
  refine Go.callP C (y := yN12) (a := w) (as := [(.long D)]) (rest := []) (wd hw 85 rfl) (wd hw 86 rfl) (sel_priv (y := yN12) (wd hw 19 rfl) (wd hw 86 rfl) (wd hw 87 rfl) (by decide)) (wd hw 87 rfl) (wd hw 88 rfl) (wd hw 20 rfl) (fun _ r => r.exa 0 rfl) (m_lvl l Z a0 hw _ hsh hlv) rfl d10_5 (q := 8) rfl (by decide) rfl (na := 1) (by decide +kernel) rfl (by decide) (W := 0) rfl (by decide) (by decide) (by decide) (k' := 0) (n' := 0) rfl rfl ?_
  rintro _ _ ⟨rfl, rfl⟩
  show Go _ _ _ _ _ _ _ _ _ _ [(.int lv)]
  refine Go.istoreN C d10_8 rfl (Ls' := #[.val (.ref w), .val (.ref t), .val (.int lv), .unset, .unset, .unset]) rfl ?_
  refine Go.aloadN C d10_9 rfl rfl rfl ?_
  refine Go.aloadN C d10_10 rfl rfl rfl ?_
  refine Go.gf C (wd hw 79 rfl) 1 2 rfl rfl d10_11 rfl ?_
  refine Go.iloadN C d10_14 rfl rfl ?_
  refine Go.callP C (y := yN13) (a := w) (as := [(.long D), (.int lv)]) (rest := []) (wd hw 89 rfl) (wd hw 90 rfl) (sel_priv (y := yN13) (wd hw 19 rfl) (wd hw 90 rfl) (wd hw 91 rfl) (by decide)) (wd hw 91 rfl) (wd hw 92 rfl) (wd hw 20 rfl) (fun _ r => r.exa 0 rfl) (m_dig l Z a0 hw _ hdg) rfl d10_15 (q := 18) rfl (by decide) rfl (na := 2) (by decide +kernel) rfl (by decide) (W := 0) rfl (by decide) (by decide) (by decide) (k' := 0) (n' := 0) rfl rfl ?_
  rintro _ _ ⟨rfl, rfl⟩
  show Go _ _ _ _ _ _ _ _ _ _ [(.int dg)]
  refine Go.istoreN C d10_18 rfl (Ls' := #[.val (.ref w), .val (.ref t), .val (.int lv), .val (.int dg), .unset, .unset]) rfl ?_
  refine Go.aloadN C d10_19 rfl rfl rfl ?_
  refine Go.gf C (wd hw 46 rfl) 0 4 rfl rfl d10_20 rfl ?_
  refine Go.iloadN C d10_23 rfl rfl ?_
  refine Go.aaload C (fun _ r => r.arr 4 rfl) rfl h0 (v := (.ref sl)) hvs d10_24 (q := 25) rfl ?_
  refine Go.iloadN C d10_25 rfl rfl ?_
  refine Go.aaload C (fun _ r => r.arr 2 rfl) rfl g0 (v := (.ref t)) hhs d10_26 (q := 27) rfl ?_
  refine Go.astore C d10_27 rfl rfl (Ls' := #[.val (.ref w), .val (.ref t), .val (.int lv), .val (.int dg), .val (.ref t), .unset]) rfl ?_
  refine Go.aloadN C d10_29 rfl rfl rfl ?_
  refine Go.aload C d10_30 rfl rfl rfl ?_
  refine Go.acmpNo C d10_32 (q := 35) rfl rfl rfl (XT.aa_ne_f rfl) ?_
  refine Go.aloadN C d10_35 rfl rfl rfl ?_
  refine Go.gf C (wd hw 99 rfl) 1 3 rfl rfl d10_36 rfl ?_
  refine Go.astore C d10_39 rfl rfl (Ls' := #[.val (.ref w), .val (.ref t), .val (.int lv), .val (.int dg), .val (.ref t), .val .null]) rfl ?_
  refine Go.aloadN C d10_41 rfl rfl rfl ?_
  refine Go.gf C (wd hw 46 rfl) 0 4 rfl rfl d10_42 rfl ?_
  refine Go.iloadN C d10_45 rfl rfl ?_
  refine Go.aaload C (fun _ r => r.arr 4 rfl) rfl h0 (v := (.ref sl)) hvs d10_46 (q := 47) rfl ?_
  refine Go.iloadN C d10_47 rfl rfl ?_
  refine Go.aload C d10_48 rfl rfl rfl ?_
  refine Go.aastore C (i := 2) rfl g0 (own_lt hhs) (fun _ _ => Or.inl rfl) d10_50 (q := 51) rfl (M' := (wE w rA sh dm bt sA fA cA tk rc :: tE t .null .null D .null pt s0 :: aT sl (hs.set dg.toNatClampNeg .null) :: aJ fl ws :: aS sA vs :: aF fA fs :: aI cA cs :: aT rA rv :: F)) rfl ?_
  refine Go.aload C d10_51 rfl rfl rfl ?_
  refine Go.nonnullNo C d10_53 (q := 56) rfl rfl ?_
  refine Go.aloadN C d10_56 rfl rfl rfl ?_
  refine Go.iloadN C d10_57 rfl rfl ?_
  refine Go.iloadN C d10_58 rfl rfl ?_
  refine Go.pick (M' := (aJ fl ws :: wE w rA sh dm bt sA fA cA tk rc :: aF fA fs :: aI cA cs :: tE t .null .null D .null pt s0 :: aT sl (hs.set dg.toNatClampNeg .null) :: aS sA vs :: aT rA rv :: F)) 8 [3, 0, 5, 6, 1, 2, 4, 7] (by decide) (by decide) rfl ?_
  refine Go.callP C (y := yN24) (a := w) (as := [(.int lv), (.int dg)]) (rest := []) (wd hw 139 rfl) (wd hw 140 rfl) (sel_priv (y := yN24) (wd hw 19 rfl) (wd hw 140 rfl) (wd hw 141 rfl) (by decide)) (wd hw 141 rfl) (wd hw 142 rfl) (wd hw 20 rfl) (fun _ r => r.exa 1 rfl) (m_clear l Z a0 hw _ h0 hfs hcs hwi w0 hws) rfl d10_59 (q := 62) rfl (by decide) rfl (na := 2) (by decide +kernel) rfl (by decide) (W := 0) rfl (by decide) (by decide) (by decide) (k' := 0) (n' := 0) rfl rfl ?_
  rintro _ _ ⟨rfl, rfl⟩
  show Go _ _ _ _ _ _ _ _ _ _ []
  refine Go.goto C d10_62 (by decide) (q := 74) rfl ?_
  refine Go.goto C d10_74 (by decide) (q := 118) rfl ?_
  refine Go.aloadN C d10_118 rfl rfl rfl ?_
  refine Go.aconstNull C d10_119 rfl ?_
  refine Go.pf C (wd hw 101 rfl) Via.refl 4 4 rfl rfl (wd hw 102 rfl) (wd hw 6 rfl) (ty := (.object "com/example/charkha/charkha/Timeout")) (by decide) rfl rfl d10_120 rfl (M' := (aJ fl (ws.set wi.toNatClampNeg (.long (u &&& (((1 : Int64) <<< (dg.toInt64 &&& 63)) ^^^ (-1 : Int64))))) :: wE w rA sh dm bt sA fA cA tk rc :: aF fA fs :: aI cA (cs.set lv.toNatClampNeg (.int (c - (1 : Int32)))) :: tE t .null .null D .null .null s0 :: aT sl (hs.set dg.toNatClampNeg .null) :: aS sA vs :: aT rA rv :: F)) rfl ?_
  refine Go.aloadN C d10_123 rfl rfl rfl ?_
  refine Go.aconstNull C d10_124 rfl ?_
  refine Go.pf C (wd hw 99 rfl) Via.refl 4 3 rfl rfl (wd hw 100 rfl) (wd hw 6 rfl) (ty := (.object "com/example/charkha/charkha/Timeout")) (by decide) rfl rfl d10_125 rfl (M' := (aJ fl (ws.set wi.toNatClampNeg (.long (u &&& (((1 : Int64) <<< (dg.toInt64 &&& 63)) ^^^ (-1 : Int64))))) :: wE w rA sh dm bt sA fA cA tk rc :: aF fA fs :: aI cA (cs.set lv.toNatClampNeg (.int (c - (1 : Int32)))) :: tE t .null .null D .null .null s0 :: aT sl (hs.set dg.toNatClampNeg .null) :: aS sA vs :: aT rA rv :: F)) rfl ?_
  refine Go.pick (M' := (tE t .null .null D .null .null s0 :: aT sl (hs.set dg.toNatClampNeg .null) :: aJ fl (ws.set wi.toNatClampNeg (.long (u &&& (((1 : Int64) <<< (dg.toInt64 &&& 63)) ^^^ (-1 : Int64))))) :: wE w rA sh dm bt sA fA cA tk rc :: aS sA vs :: aF fA fs :: aI cA (cs.set lv.toNatClampNeg (.int (c - (1 : Int32)))) :: aT rA rv :: F)) 8 [4, 5, 0, 1, 6, 2, 3, 7] (by decide) (by decide) rfl ?_
  refine Go.ret0 C rfl d10_128 (by decide) (by decide) ?_
  exact ⟨rfl, rfl⟩
theorem d10_65 : decode prog_12_method_9_code 65 = .ok (.aload 5, 2) := by decide +kernel
theorem d10_67 : decode prog_12_method_9_code 67 = .ok (.aload_n 1, 1) := by decide +kernel
theorem d10_68 : decode prog_12_method_9_code 68 = .ok (.getfield 97, 3) := by decide +kernel
theorem d10_71 : decode prog_12_method_9_code 71 = .ok (.putfield 97, 3) := by decide +kernel
theorem m_unlB (l : Launch) (Z : State) (a0 : Array Value) (hw : HW Z a0) (F : List Ent) {w sA fA cA rA : Addr} {sh : Int32} {dm : Int64} {bt rc : Int32} {tk : Int64} {sl fl : Addr} {vs fs cs rv hs ws : List Value} {lv dg wi c : Int32} {u D : Int64} {t : Addr} {s0 : Int32} {a : Addr} {Da : Int64} {na pa : Value} {s1 : Int32} {b : Addr} (h0 : ¬ lv < 0) (hvs : vs[lv.toNatClampNeg]? = some (.ref sl)) (hfs : fs[lv.toNatClampNeg]? = some (.ref fl)) (hcs : cs[lv.toNatClampNeg]? = some (.int c)) (g0 : ¬ dg < 0) (hwi : XT.ushr dg (6 : Int32) = wi) (w0 : ¬ wi < 0) (hws : ws[wi.toNatClampNeg]? = some (.long u)) (hsh : sh ≠ 0) (hlv : own_lv sh (D ^^^ tk) = lv) (hdg : own_dg sh dm D lv = dg) (hhs : hs[dg.toNatClampNeg]? = some (.ref t)) :
    Met l Z yN23 prog_12_method_9_code 6 none { frames := 6, cells := 0, slots := 0, locals := 120 } #[(.ref w), (.ref t)] (tE t .null .null D (.ref a) (.ref b) s0 :: tE a .null .null Da na pa s1 :: aT sl hs :: aJ fl ws :: wE w rA sh dm bt sA fA cA tk rc :: aS sA vs :: aF fA fs :: aI cA cs :: aT rA rv :: F) (fun r M' => r = none ∧ M' = (tE t .null .null D .null .null s0 :: tE a .null .null Da na (.ref b) s1 :: aT sl (hs.set dg.toNatClampNeg (.ref a)) :: aJ fl ws :: wE w rA sh dm bt sA fA cA tk rc :: aS sA vs :: aF fA fs :: aI cA cs :: aT rA rv :: F)) := by
  refine Met.of_go pn_10 (Ls := #[.val (.ref w), .val (.ref t), .unset, .unset, .unset, .unset]) (fun m => rfl) ?_
  intro E C
  refine Go.aloadN C d10_0 rfl rfl rfl ?_
  refine Go.aloadN C d10_1 rfl rfl rfl ?_
  refine Go.gf C (wd hw 79 rfl) 0 2 rfl rfl d10_2 rfl ?_
  refine Go.pick (M' := (wE w rA sh dm bt sA fA cA tk rc :: tE t .null .null D (.ref a) (.ref b) s0 :: tE a .null .null Da na pa s1 :: aT sl hs :: aJ fl ws :: aS sA vs :: aF fA fs :: aI cA cs :: aT rA rv :: F)) 9 [4, 0, 1, 2, 3, 5, 6, 7, 8] (by decide) (by decide) rfl ?_
  refine Go.callP C (y := yN12) (a := w) (as := [(.long D)]) (rest := []) (wd hw 85 rfl) (wd hw 86 rfl) (sel_priv (y := yN12) (wd hw 19 rfl) (wd hw 86 rfl) (wd hw 87 rfl) (by decide)) (wd hw 87 rfl) (wd hw 88 rfl) (wd hw 20 rfl) (fun _ r => r.exa 0 rfl) (m_lvl l Z a0 hw _ hsh hlv) rfl d10_5 (q := 8) rfl (by decide) rfl (na := 1) (by decide +kernel) rfl (by decide) (W := 0) rfl (by decide) (by decide) (by decide) (k' := 0) (n' := 0) rfl rfl ?_
  rintro _ _ ⟨rfl, rfl⟩
  show Go _ _ _ _ _ _ _ _ _ _ [(.int lv)]
  refine Go.istoreN C d10_8 rfl (Ls' := #[.val (.ref w), .val (.ref t), .val (.int lv), .unset, .unset, .unset]) rfl ?_
  refine Go.aloadN C d10_9 rfl rfl rfl ?_
  refine Go.aloadN C d10_10 rfl rfl rfl ?_
  refine Go.gf C (wd hw 79 rfl) 1 2 rfl rfl d10_11 rfl ?_
  refine Go.iloadN C d10_14 rfl rfl ?_
  refine Go.callP C (y := yN13) (a := w) (as := [(.long D), (.int lv)]) (rest := []) (wd hw 89 rfl) (wd hw 90 rfl) (sel_priv (y := yN13) (wd hw 19 rfl) (wd hw 90 rfl) (wd hw 91 rfl) (by decide)) (wd hw 91 rfl) (wd hw 92 rfl) (wd hw 20 rfl) (fun _ r => r.exa 0 rfl) (m_dig l Z a0 hw _ hdg) rfl d10_15 (q := 18) rfl (by decide) rfl (na := 2) (by decide +kernel) rfl (by decide) (W := 0) rfl (by decide) (by decide) (by decide) (k' := 0) (n' := 0) rfl rfl ?_
  rintro _ _ ⟨rfl, rfl⟩
  show Go _ _ _ _ _ _ _ _ _ _ [(.int dg)]
  refine Go.istoreN C d10_18 rfl (Ls' := #[.val (.ref w), .val (.ref t), .val (.int lv), .val (.int dg), .unset, .unset]) rfl ?_
  refine Go.aloadN C d10_19 rfl rfl rfl ?_
  refine Go.gf C (wd hw 46 rfl) 0 4 rfl rfl d10_20 rfl ?_
  refine Go.iloadN C d10_23 rfl rfl ?_
  refine Go.aaload C (fun _ r => r.arr 5 rfl) rfl h0 (v := (.ref sl)) hvs d10_24 (q := 25) rfl ?_
  refine Go.iloadN C d10_25 rfl rfl ?_
  refine Go.aaload C (fun _ r => r.arr 3 rfl) rfl g0 (v := (.ref t)) hhs d10_26 (q := 27) rfl ?_
  refine Go.astore C d10_27 rfl rfl (Ls' := #[.val (.ref w), .val (.ref t), .val (.int lv), .val (.int dg), .val (.ref t), .unset]) rfl ?_
  refine Go.aloadN C d10_29 rfl rfl rfl ?_
  refine Go.aload C d10_30 rfl rfl rfl ?_
  refine Go.acmpNo C d10_32 (q := 35) rfl rfl rfl (XT.aa_ne_f rfl) ?_
  refine Go.aloadN C d10_35 rfl rfl rfl ?_
  refine Go.gf C (wd hw 99 rfl) 1 3 rfl rfl d10_36 rfl ?_
  refine Go.astore C d10_39 rfl rfl (Ls' := #[.val (.ref w), .val (.ref t), .val (.int lv), .val (.int dg), .val (.ref t), .val (.ref a)]) rfl ?_
  refine Go.aloadN C d10_41 rfl rfl rfl ?_
  refine Go.gf C (wd hw 46 rfl) 0 4 rfl rfl d10_42 rfl ?_
  refine Go.iloadN C d10_45 rfl rfl ?_
  refine Go.aaload C (fun _ r => r.arr 5 rfl) rfl h0 (v := (.ref sl)) hvs d10_46 (q := 47) rfl ?_
  refine Go.iloadN C d10_47 rfl rfl ?_
  refine Go.aload C d10_48 rfl rfl rfl ?_
  refine Go.aastore C (i := 3) rfl g0 (own_lt hhs) (fun _ r => Or.inr ⟨_, rfl, Ins.self (r.exa 2 rfl)⟩) d10_50 (q := 51) rfl (M' := (wE w rA sh dm bt sA fA cA tk rc :: tE t .null .null D (.ref a) (.ref b) s0 :: tE a .null .null Da na pa s1 :: aT sl (hs.set dg.toNatClampNeg (.ref a)) :: aJ fl ws :: aS sA vs :: aF fA fs :: aI cA cs :: aT rA rv :: F)) rfl ?_
  refine Go.aload C d10_51 rfl rfl rfl ?_
  refine Go.nonnullYes C d10_53 (by decide) (q := 65) rfl rfl (by simp) ?_
  refine Go.aload C d10_65 rfl rfl rfl ?_
  refine Go.aloadN C d10_67 rfl rfl rfl ?_
  refine Go.gf C (wd hw 101 rfl) 1 4 rfl rfl d10_68 rfl ?_
  refine Go.pf C (wd hw 101 rfl) Via.refl 2 4 rfl rfl (wd hw 102 rfl) (wd hw 6 rfl) (ty := (.object "com/example/charkha/charkha/Timeout")) (by decide) rfl rfl d10_71 rfl (M' := (wE w rA sh dm bt sA fA cA tk rc :: tE t .null .null D (.ref a) (.ref b) s0 :: tE a .null .null Da na (.ref b) s1 :: aT sl (hs.set dg.toNatClampNeg (.ref a)) :: aJ fl ws :: aS sA vs :: aF fA fs :: aI cA cs :: aT rA rv :: F)) rfl ?_
  refine Go.goto C d10_74 (by decide) (q := 118) rfl ?_
  refine Go.aloadN C d10_118 rfl rfl rfl ?_
  refine Go.aconstNull C d10_119 rfl ?_
  refine Go.pf C (wd hw 101 rfl) Via.refl 1 4 rfl rfl (wd hw 102 rfl) (wd hw 6 rfl) (ty := (.object "com/example/charkha/charkha/Timeout")) (by decide) rfl rfl d10_120 rfl (M' := (wE w rA sh dm bt sA fA cA tk rc :: tE t .null .null D (.ref a) .null s0 :: tE a .null .null Da na (.ref b) s1 :: aT sl (hs.set dg.toNatClampNeg (.ref a)) :: aJ fl ws :: aS sA vs :: aF fA fs :: aI cA cs :: aT rA rv :: F)) rfl ?_
  refine Go.aloadN C d10_123 rfl rfl rfl ?_
  refine Go.aconstNull C d10_124 rfl ?_
  refine Go.pf C (wd hw 99 rfl) Via.refl 1 3 rfl rfl (wd hw 100 rfl) (wd hw 6 rfl) (ty := (.object "com/example/charkha/charkha/Timeout")) (by decide) rfl rfl d10_125 rfl (M' := (wE w rA sh dm bt sA fA cA tk rc :: tE t .null .null D .null .null s0 :: tE a .null .null Da na (.ref b) s1 :: aT sl (hs.set dg.toNatClampNeg (.ref a)) :: aJ fl ws :: aS sA vs :: aF fA fs :: aI cA cs :: aT rA rv :: F)) rfl ?_
  refine Go.pick (M' := (tE t .null .null D .null .null s0 :: tE a .null .null Da na (.ref b) s1 :: aT sl (hs.set dg.toNatClampNeg (.ref a)) :: aJ fl ws :: wE w rA sh dm bt sA fA cA tk rc :: aS sA vs :: aF fA fs :: aI cA cs :: aT rA rv :: F)) 9 [1, 2, 3, 4, 0, 5, 6, 7, 8] (by decide) (by decide) rfl ?_
  refine Go.ret0 C rfl d10_128 (by decide) (by decide) ?_
  exact ⟨rfl, rfl⟩
theorem d10_77 : decode prog_12_method_9_code 77 = .ok (.aload_n 1, 1) := by decide +kernel
theorem d10_78 : decode prog_12_method_9_code 78 = .ok (.getfield 97, 3) := by decide +kernel
theorem d10_81 : decode prog_12_method_9_code 81 = .ok (.aload_n 1, 1) := by decide +kernel
theorem d10_82 : decode prog_12_method_9_code 82 = .ok (.getfield 104, 3) := by decide +kernel
theorem d10_85 : decode prog_12_method_9_code 85 = .ok (.putfield 104, 3) := by decide +kernel
theorem d10_88 : decode prog_12_method_9_code 88 = .ok (.aload_n 1, 1) := by decide +kernel
theorem d10_89 : decode prog_12_method_9_code 89 = .ok (.getfield 104, 3) := by decide +kernel
theorem d10_92 : decode prog_12_method_9_code 92 = .ok (.ifnonnull 15, 3) := by decide +kernel
theorem d10_95 : decode prog_12_method_9_code 95 = .ok (.aload 4, 2) := by decide +kernel
theorem d10_97 : decode prog_12_method_9_code 97 = .ok (.aload_n 1, 1) := by decide +kernel
theorem d10_98 : decode prog_12_method_9_code 98 = .ok (.getfield 97, 3) := by decide +kernel
theorem d10_101 : decode prog_12_method_9_code 101 = .ok (.putfield 97, 3) := by decide +kernel
theorem d10_104 : decode prog_12_method_9_code 104 = .ok (.goto 14, 3) := by decide +kernel
theorem m_unlC (l : Launch) (Z : State) (a0 : Array Value) (hw : HW Z a0) (F : List Ent) {w sA fA cA rA : Addr} {sh : Int32} {dm : Int64} {bt rc : Int32} {tk : Int64} {sl fl : Addr} {vs fs cs rv hs ws : List Value} {lv dg wi c : Int32} {u D : Int64} {t : Addr} {s0 : Int32} {a : Addr} {Da : Int64} {na pa : Value} {s1 : Int32} (h0 : ¬ lv < 0) (hvs : vs[lv.toNatClampNeg]? = some (.ref sl)) (hfs : fs[lv.toNatClampNeg]? = some (.ref fl)) (hcs : cs[lv.toNatClampNeg]? = some (.int c)) (g0 : ¬ dg < 0) (hwi : XT.ushr dg (6 : Int32) = wi) (w0 : ¬ wi < 0) (hws : ws[wi.toNatClampNeg]? = some (.long u)) (hsh : sh ≠ 0) (hlv : own_lv sh (D ^^^ tk) = lv) (hdg : own_dg sh dm D lv = dg) (hhs : hs[dg.toNatClampNeg]? = some (.ref a)) (hne : ¬ Value.ref t = Value.ref a) :
    Met l Z yN23 prog_12_method_9_code 6 none { frames := 6, cells := 0, slots := 0, locals := 120 } #[(.ref w), (.ref t)] (tE t .null .null D .null (.ref a) s0 :: tE a .null .null Da na pa s1 :: aT sl hs :: aJ fl ws :: wE w rA sh dm bt sA fA cA tk rc :: aS sA vs :: aF fA fs :: aI cA cs :: aT rA rv :: F) (fun r M' => r = none ∧ M' = (tE t .null .null D .null .null s0 :: tE a .null .null Da .null (.ref a) s1 :: aT sl hs :: aJ fl ws :: wE w rA sh dm bt sA fA cA tk rc :: aS sA vs :: aF fA fs :: aI cA cs :: aT rA rv :: F)) := by
  refine Met.of_go pn_10 (Ls := #[.val (.ref w), .val (.ref t), .unset, .unset, .unset, .unset]) (fun m => rfl) ?_
  intro E C
  refine Go.aloadN C d10_0 rfl rfl rfl ?_
  refine Go.aloadN C d10_1 rfl rfl rfl ?_
  refine Go.gf C (wd hw 79 rfl) 0 2 rfl rfl d10_2 rfl ?_
  refine Go.pick (M' := (wE w rA sh dm bt sA fA cA tk rc :: tE t .null .null D .null (.ref a) s0 :: tE a .null .null Da na pa s1 :: aT sl hs :: aJ fl ws :: aS sA vs :: aF fA fs :: aI cA cs :: aT rA rv :: F)) 9 [4, 0, 1, 2, 3, 5, 6, 7, 8] (by decide) (by decide) rfl ?_
  refine Go.callP C (y := yN12) (a := w) (as := [(.long D)]) (rest := []) (wd hw 85 rfl) (wd hw 86 rfl) (sel_priv (y := yN12) (wd hw 19 rfl) (wd hw 86 rfl) (wd hw 87 rfl) (by decide)) (wd hw 87 rfl) (wd hw 88 rfl) (wd hw 20 rfl) (fun _ r => r.exa 0 rfl) (m_lvl l Z a0 hw _ hsh hlv) rfl d10_5 (q := 8) rfl (by decide) rfl (na := 1) (by decide +kernel) rfl (by decide) (W := 0) rfl (by decide) (by decide) (by decide) (k' := 0) (n' := 0) rfl rfl ?_
  rintro _ _ ⟨rfl, rfl⟩
  show Go _ _ _ _ _ _ _ _ _ _ [(.int lv)]
  refine Go.istoreN C d10_8 rfl (Ls' := #[.val (.ref w), .val (.ref t), .val (.int lv), .unset, .unset, .unset]) rfl ?_
  refine Go.aloadN C d10_9 rfl rfl rfl ?_
  refine Go.aloadN C d10_10 rfl rfl rfl ?_
  refine Go.gf C (wd hw 79 rfl) 1 2 rfl rfl d10_11 rfl ?_
  refine Go.iloadN C d10_14 rfl rfl ?_
  refine Go.callP C (y := yN13) (a := w) (as := [(.long D), (.int lv)]) (rest := []) (wd hw 89 rfl) (wd hw 90 rfl) (sel_priv (y := yN13) (wd hw 19 rfl) (wd hw 90 rfl) (wd hw 91 rfl) (by decide)) (wd hw 91 rfl) (wd hw 92 rfl) (wd hw 20 rfl) (fun _ r => r.exa 0 rfl) (m_dig l Z a0 hw _ hdg) rfl d10_15 (q := 18) rfl (by decide) rfl (na := 2) (by decide +kernel) rfl (by decide) (W := 0) rfl (by decide) (by decide) (by decide) (k' := 0) (n' := 0) rfl rfl ?_
  rintro _ _ ⟨rfl, rfl⟩
  show Go _ _ _ _ _ _ _ _ _ _ [(.int dg)]
  refine Go.istoreN C d10_18 rfl (Ls' := #[.val (.ref w), .val (.ref t), .val (.int lv), .val (.int dg), .unset, .unset]) rfl ?_
  refine Go.aloadN C d10_19 rfl rfl rfl ?_
  refine Go.gf C (wd hw 46 rfl) 0 4 rfl rfl d10_20 rfl ?_
  refine Go.iloadN C d10_23 rfl rfl ?_
  refine Go.aaload C (fun _ r => r.arr 5 rfl) rfl h0 (v := (.ref sl)) hvs d10_24 (q := 25) rfl ?_
  refine Go.iloadN C d10_25 rfl rfl ?_
  refine Go.aaload C (fun _ r => r.arr 3 rfl) rfl g0 (v := (.ref a)) hhs d10_26 (q := 27) rfl ?_
  refine Go.astore C d10_27 rfl rfl (Ls' := #[.val (.ref w), .val (.ref t), .val (.int lv), .val (.int dg), .val (.ref a), .unset]) rfl ?_
  refine Go.aloadN C d10_29 rfl rfl rfl ?_
  refine Go.aload C d10_30 rfl rfl rfl ?_
  refine Go.acmpYes C d10_32 (by decide) (q := 77) rfl rfl rfl (XT.aa_ne_t hne) ?_
  refine Go.aloadN C d10_77 rfl rfl rfl ?_
  refine Go.gf C (wd hw 101 rfl) 1 4 rfl rfl d10_78 rfl ?_
  refine Go.aloadN C d10_81 rfl rfl rfl ?_
  refine Go.gf C (wd hw 99 rfl) 1 3 rfl rfl d10_82 rfl ?_
  refine Go.pf C (wd hw 99 rfl) Via.refl 2 3 rfl rfl (wd hw 100 rfl) (wd hw 6 rfl) (ty := (.object "com/example/charkha/charkha/Timeout")) (by decide) rfl rfl d10_85 rfl (M' := (wE w rA sh dm bt sA fA cA tk rc :: tE t .null .null D .null (.ref a) s0 :: tE a .null .null Da .null pa s1 :: aT sl hs :: aJ fl ws :: aS sA vs :: aF fA fs :: aI cA cs :: aT rA rv :: F)) rfl ?_
  refine Go.aloadN C d10_88 rfl rfl rfl ?_
  refine Go.gf C (wd hw 99 rfl) 1 3 rfl rfl d10_89 rfl ?_
  refine Go.nonnullNo C d10_92 (q := 95) rfl rfl ?_
  refine Go.aload C d10_95 rfl rfl rfl ?_
  refine Go.aloadN C d10_97 rfl rfl rfl ?_
  refine Go.gf C (wd hw 101 rfl) 1 4 rfl rfl d10_98 rfl ?_
  refine Go.pf C (wd hw 101 rfl) Via.refl 2 4 rfl rfl (wd hw 102 rfl) (wd hw 6 rfl) (ty := (.object "com/example/charkha/charkha/Timeout")) (by decide) rfl rfl d10_101 rfl (M' := (wE w rA sh dm bt sA fA cA tk rc :: tE t .null .null D .null (.ref a) s0 :: tE a .null .null Da .null (.ref a) s1 :: aT sl hs :: aJ fl ws :: aS sA vs :: aF fA fs :: aI cA cs :: aT rA rv :: F)) rfl ?_
  refine Go.goto C d10_104 (by decide) (q := 118) rfl ?_
  refine Go.aloadN C d10_118 rfl rfl rfl ?_
  refine Go.aconstNull C d10_119 rfl ?_
  refine Go.pf C (wd hw 101 rfl) Via.refl 1 4 rfl rfl (wd hw 102 rfl) (wd hw 6 rfl) (ty := (.object "com/example/charkha/charkha/Timeout")) (by decide) rfl rfl d10_120 rfl (M' := (wE w rA sh dm bt sA fA cA tk rc :: tE t .null .null D .null .null s0 :: tE a .null .null Da .null (.ref a) s1 :: aT sl hs :: aJ fl ws :: aS sA vs :: aF fA fs :: aI cA cs :: aT rA rv :: F)) rfl ?_
  refine Go.aloadN C d10_123 rfl rfl rfl ?_
  refine Go.aconstNull C d10_124 rfl ?_
  refine Go.pf C (wd hw 99 rfl) Via.refl 1 3 rfl rfl (wd hw 100 rfl) (wd hw 6 rfl) (ty := (.object "com/example/charkha/charkha/Timeout")) (by decide) rfl rfl d10_125 rfl (M' := (wE w rA sh dm bt sA fA cA tk rc :: tE t .null .null D .null .null s0 :: tE a .null .null Da .null (.ref a) s1 :: aT sl hs :: aJ fl ws :: aS sA vs :: aF fA fs :: aI cA cs :: aT rA rv :: F)) rfl ?_
  refine Go.pick (M' := (tE t .null .null D .null .null s0 :: tE a .null .null Da .null (.ref a) s1 :: aT sl hs :: aJ fl ws :: wE w rA sh dm bt sA fA cA tk rc :: aS sA vs :: aF fA fs :: aI cA cs :: aT rA rv :: F)) 9 [1, 2, 3, 4, 0, 5, 6, 7, 8] (by decide) (by decide) rfl ?_
  refine Go.ret0 C rfl d10_128 (by decide) (by decide) ?_
  exact ⟨rfl, rfl⟩
theorem m_unlD (l : Launch) (Z : State) (a0 : Array Value) (hw : HW Z a0) (F : List Ent) {w sA fA cA rA : Addr} {sh : Int32} {dm : Int64} {bt rc : Int32} {tk : Int64} {sl fl : Addr} {vs fs cs rv hs ws : List Value} {lv dg wi c : Int32} {u D : Int64} {t : Addr} {s0 : Int32} {a : Addr} {Da : Int64} {na pa : Value} {s1 : Int32} {b : Addr} {Db : Int64} {nb pb : Value} {s2 : Int32} (h0 : ¬ lv < 0) (hvs : vs[lv.toNatClampNeg]? = some (.ref sl)) (hfs : fs[lv.toNatClampNeg]? = some (.ref fl)) (hcs : cs[lv.toNatClampNeg]? = some (.int c)) (g0 : ¬ dg < 0) (hwi : XT.ushr dg (6 : Int32) = wi) (w0 : ¬ wi < 0) (hws : ws[wi.toNatClampNeg]? = some (.long u)) (hsh : sh ≠ 0) (hlv : own_lv sh (D ^^^ tk) = lv) (hdg : own_dg sh dm D lv = dg) (hhs : hs[dg.toNatClampNeg]? = some (.ref a)) (hne : ¬ Value.ref t = Value.ref a) :
    Met l Z yN23 prog_12_method_9_code 6 none { frames := 6, cells := 0, slots := 0, locals := 120 } #[(.ref w), (.ref t)] (tE t .null .null D .null (.ref b) s0 :: tE a .null .null Da na pa s1 :: tE b .null .null Db nb pb s2 :: aT sl hs :: aJ fl ws :: wE w rA sh dm bt sA fA cA tk rc :: aS sA vs :: aF fA fs :: aI cA cs :: aT rA rv :: F) (fun r M' => r = none ∧ M' = (tE t .null .null D .null .null s0 :: tE a .null .null Da na (.ref b) s1 :: tE b .null .null Db .null pb s2 :: aT sl hs :: aJ fl ws :: wE w rA sh dm bt sA fA cA tk rc :: aS sA vs :: aF fA fs :: aI cA cs :: aT rA rv :: F)) := by
  refine Met.of_go pn_10 (Ls := #[.val (.ref w), .val (.ref t), .unset, .unset, .unset, .unset]) (fun m => rfl) ?_
  intro E C
  refine Go.aloadN C d10_0 rfl rfl rfl ?_
  refine Go.aloadN C d10_1 rfl rfl rfl ?_
  refine Go.gf C (wd hw 79 rfl) 0 2 rfl rfl d10_2 rfl ?_
  refine Go.pick (M' := (wE w rA sh dm bt sA fA cA tk rc :: tE t .null .null D .null (.ref b) s0 :: tE a .null .null Da na pa s1 :: tE b .null .null Db nb pb s2 :: aT sl hs :: aJ fl ws :: aS sA vs :: aF fA fs :: aI cA cs :: aT rA rv :: F)) 10 [5, 0, 1, 2, 3, 4, 6, 7, 8, 9] (by decide) (by decide) rfl ?_
  refine Go.callP C (y := yN12) (a := w) (as := [(.long D)]) (rest := []) (wd hw 85 rfl) (wd hw 86 rfl) (sel_priv (y := yN12) (wd hw 19 rfl) (wd hw 86 rfl) (wd hw 87 rfl) (by decide)) (wd hw 87 rfl) (wd hw 88 rfl) (wd hw 20 rfl) (fun _ r => r.exa 0 rfl) (m_lvl l Z a0 hw _ hsh hlv) rfl d10_5 (q := 8) rfl (by decide) rfl (na := 1) (by decide +kernel) rfl (by decide) (W := 0) rfl (by decide) (by decide) (by decide) (k' := 0) (n' := 0) rfl rfl ?_
  rintro _ _ ⟨rfl, rfl⟩
  show Go _ _ _ _ _ _ _ _ _ _ [(.int lv)]
  refine Go.istoreN C d10_8 rfl (Ls' := #[.val (.ref w), .val (.ref t), .val (.int lv), .unset, .unset, .unset]) rfl ?_
  refine Go.aloadN C d10_9 rfl rfl rfl ?_
  refine Go.aloadN C d10_10 rfl rfl rfl ?_
  refine Go.gf C (wd hw 79 rfl) 1 2 rfl rfl d10_11 rfl ?_
  refine Go.iloadN C d10_14 rfl rfl ?_
  refine Go.callP C (y := yN13) (a := w) (as := [(.long D), (.int lv)]) (rest := []) (wd hw 89 rfl) (wd hw 90 rfl) (sel_priv (y := yN13) (wd hw 19 rfl) (wd hw 90 rfl) (wd hw 91 rfl) (by decide)) (wd hw 91 rfl) (wd hw 92 rfl) (wd hw 20 rfl) (fun _ r => r.exa 0 rfl) (m_dig l Z a0 hw _ hdg) rfl d10_15 (q := 18) rfl (by decide) rfl (na := 2) (by decide +kernel) rfl (by decide) (W := 0) rfl (by decide) (by decide) (by decide) (k' := 0) (n' := 0) rfl rfl ?_
  rintro _ _ ⟨rfl, rfl⟩
  show Go _ _ _ _ _ _ _ _ _ _ [(.int dg)]
  refine Go.istoreN C d10_18 rfl (Ls' := #[.val (.ref w), .val (.ref t), .val (.int lv), .val (.int dg), .unset, .unset]) rfl ?_
  refine Go.aloadN C d10_19 rfl rfl rfl ?_
  refine Go.gf C (wd hw 46 rfl) 0 4 rfl rfl d10_20 rfl ?_
  refine Go.iloadN C d10_23 rfl rfl ?_
  refine Go.aaload C (fun _ r => r.arr 6 rfl) rfl h0 (v := (.ref sl)) hvs d10_24 (q := 25) rfl ?_
  refine Go.iloadN C d10_25 rfl rfl ?_
  refine Go.aaload C (fun _ r => r.arr 4 rfl) rfl g0 (v := (.ref a)) hhs d10_26 (q := 27) rfl ?_
  refine Go.astore C d10_27 rfl rfl (Ls' := #[.val (.ref w), .val (.ref t), .val (.int lv), .val (.int dg), .val (.ref a), .unset]) rfl ?_
  refine Go.aloadN C d10_29 rfl rfl rfl ?_
  refine Go.aload C d10_30 rfl rfl rfl ?_
  refine Go.acmpYes C d10_32 (by decide) (q := 77) rfl rfl rfl (XT.aa_ne_t hne) ?_
  refine Go.aloadN C d10_77 rfl rfl rfl ?_
  refine Go.gf C (wd hw 101 rfl) 1 4 rfl rfl d10_78 rfl ?_
  refine Go.aloadN C d10_81 rfl rfl rfl ?_
  refine Go.gf C (wd hw 99 rfl) 1 3 rfl rfl d10_82 rfl ?_
  refine Go.pf C (wd hw 99 rfl) Via.refl 3 3 rfl rfl (wd hw 100 rfl) (wd hw 6 rfl) (ty := (.object "com/example/charkha/charkha/Timeout")) (by decide) rfl rfl d10_85 rfl (M' := (wE w rA sh dm bt sA fA cA tk rc :: tE t .null .null D .null (.ref b) s0 :: tE a .null .null Da na pa s1 :: tE b .null .null Db .null pb s2 :: aT sl hs :: aJ fl ws :: aS sA vs :: aF fA fs :: aI cA cs :: aT rA rv :: F)) rfl ?_
  refine Go.aloadN C d10_88 rfl rfl rfl ?_
  refine Go.gf C (wd hw 99 rfl) 1 3 rfl rfl d10_89 rfl ?_
  refine Go.nonnullNo C d10_92 (q := 95) rfl rfl ?_
  refine Go.aload C d10_95 rfl rfl rfl ?_
  refine Go.aloadN C d10_97 rfl rfl rfl ?_
  refine Go.gf C (wd hw 101 rfl) 1 4 rfl rfl d10_98 rfl ?_
  refine Go.pf C (wd hw 101 rfl) Via.refl 2 4 rfl rfl (wd hw 102 rfl) (wd hw 6 rfl) (ty := (.object "com/example/charkha/charkha/Timeout")) (by decide) rfl rfl d10_101 rfl (M' := (wE w rA sh dm bt sA fA cA tk rc :: tE t .null .null D .null (.ref b) s0 :: tE a .null .null Da na (.ref b) s1 :: tE b .null .null Db .null pb s2 :: aT sl hs :: aJ fl ws :: aS sA vs :: aF fA fs :: aI cA cs :: aT rA rv :: F)) rfl ?_
  refine Go.goto C d10_104 (by decide) (q := 118) rfl ?_
  refine Go.aloadN C d10_118 rfl rfl rfl ?_
  refine Go.aconstNull C d10_119 rfl ?_
  refine Go.pf C (wd hw 101 rfl) Via.refl 1 4 rfl rfl (wd hw 102 rfl) (wd hw 6 rfl) (ty := (.object "com/example/charkha/charkha/Timeout")) (by decide) rfl rfl d10_120 rfl (M' := (wE w rA sh dm bt sA fA cA tk rc :: tE t .null .null D .null .null s0 :: tE a .null .null Da na (.ref b) s1 :: tE b .null .null Db .null pb s2 :: aT sl hs :: aJ fl ws :: aS sA vs :: aF fA fs :: aI cA cs :: aT rA rv :: F)) rfl ?_
  refine Go.aloadN C d10_123 rfl rfl rfl ?_
  refine Go.aconstNull C d10_124 rfl ?_
  refine Go.pf C (wd hw 99 rfl) Via.refl 1 3 rfl rfl (wd hw 100 rfl) (wd hw 6 rfl) (ty := (.object "com/example/charkha/charkha/Timeout")) (by decide) rfl rfl d10_125 rfl (M' := (wE w rA sh dm bt sA fA cA tk rc :: tE t .null .null D .null .null s0 :: tE a .null .null Da na (.ref b) s1 :: tE b .null .null Db .null pb s2 :: aT sl hs :: aJ fl ws :: aS sA vs :: aF fA fs :: aI cA cs :: aT rA rv :: F)) rfl ?_
  refine Go.pick (M' := (tE t .null .null D .null .null s0 :: tE a .null .null Da na (.ref b) s1 :: tE b .null .null Db .null pb s2 :: aT sl hs :: aJ fl ws :: wE w rA sh dm bt sA fA cA tk rc :: aS sA vs :: aF fA fs :: aI cA cs :: aT rA rv :: F)) 10 [1, 2, 3, 4, 5, 0, 6, 7, 8, 9] (by decide) (by decide) rfl ?_
  refine Go.ret0 C rfl d10_128 (by decide) (by decide) ?_
  exact ⟨rfl, rfl⟩
theorem d10_107 : decode prog_12_method_9_code 107 = .ok (.aload_n 1, 1) := by decide +kernel
theorem d10_108 : decode prog_12_method_9_code 108 = .ok (.getfield 104, 3) := by decide +kernel
theorem d10_111 : decode prog_12_method_9_code 111 = .ok (.aload_n 1, 1) := by decide +kernel
theorem d10_112 : decode prog_12_method_9_code 112 = .ok (.getfield 97, 3) := by decide +kernel
theorem d10_115 : decode prog_12_method_9_code 115 = .ok (.putfield 97, 3) := by decide +kernel
theorem m_unlE (l : Launch) (Z : State) (a0 : Array Value) (hw : HW Z a0) (F : List Ent) {w sA fA cA rA : Addr} {sh : Int32} {dm : Int64} {bt rc : Int32} {tk : Int64} {sl fl : Addr} {vs fs cs rv hs ws : List Value} {lv dg wi c : Int32} {u D : Int64} {t : Addr} {s0 : Int32} {a : Addr} {Da : Int64} {na pa : Value} {s1 : Int32} {b : Addr} {Db : Int64} {nb pb : Value} {s2 : Int32} (h0 : ¬ lv < 0) (hvs : vs[lv.toNatClampNeg]? = some (.ref sl)) (hfs : fs[lv.toNatClampNeg]? = some (.ref fl)) (hcs : cs[lv.toNatClampNeg]? = some (.int c)) (g0 : ¬ dg < 0) (hwi : XT.ushr dg (6 : Int32) = wi) (w0 : ¬ wi < 0) (hws : ws[wi.toNatClampNeg]? = some (.long u)) (hsh : sh ≠ 0) (hlv : own_lv sh (D ^^^ tk) = lv) (hdg : own_dg sh dm D lv = dg) (hhs : hs[dg.toNatClampNeg]? = some (.ref a)) (hne : ¬ Value.ref t = Value.ref a) :
    Met l Z yN23 prog_12_method_9_code 6 none { frames := 6, cells := 0, slots := 0, locals := 120 } #[(.ref w), (.ref t)] (tE t .null .null D (.ref b) (.ref a) s0 :: tE a .null .null Da na pa s1 :: tE b .null .null Db nb pb s2 :: aT sl hs :: aJ fl ws :: wE w rA sh dm bt sA fA cA tk rc :: aS sA vs :: aF fA fs :: aI cA cs :: aT rA rv :: F) (fun r M' => r = none ∧ M' = (tE t .null .null D .null .null s0 :: tE a .null .null Da (.ref b) pa s1 :: tE b .null .null Db nb (.ref a) s2 :: aT sl hs :: aJ fl ws :: wE w rA sh dm bt sA fA cA tk rc :: aS sA vs :: aF fA fs :: aI cA cs :: aT rA rv :: F)) := by
  refine Met.of_go pn_10 (Ls := #[.val (.ref w), .val (.ref t), .unset, .unset, .unset, .unset]) (fun m => rfl) ?_
  intro E C
  refine Go.aloadN C d10_0 rfl rfl rfl ?_
  refine Go.aloadN C d10_1 rfl rfl rfl ?_
  refine Go.gf C (wd hw 79 rfl) 0 2 rfl rfl d10_2 rfl ?_
  refine Go.pick (M' := (wE w rA sh dm bt sA fA cA tk rc :: tE t .null .null D (.ref b) (.ref a) s0 :: tE a .null .null Da na pa s1 :: tE b .null .null Db nb pb s2 :: aT sl hs :: aJ fl ws :: aS sA vs :: aF fA fs :: aI cA cs :: aT rA rv :: F)) 10 [5, 0, 1, 2, 3, 4, 6, 7, 8, 9] (by decide) (by decide) rfl ?_
  refine Go.callP C (y := yN12) (a := w) (as := [(.long D)]) (rest := []) (wd hw 85 rfl) (wd hw 86 rfl) (sel_priv (y := yN12) (wd hw 19 rfl) (wd hw 86 rfl) (wd hw 87 rfl) (by decide)) (wd hw 87 rfl) (wd hw 88 rfl) (wd hw 20 rfl) (fun _ r => r.exa 0 rfl) (m_lvl l Z a0 hw _ hsh hlv) rfl d10_5 (q := 8) rfl (by decide) rfl (na := 1) (by decide +kernel) rfl (by decide) (W := 0) rfl (by decide) (by decide) (by decide) (k' := 0) (n' := 0) rfl rfl ?_
  rintro _ _ ⟨rfl, rfl⟩
  show Go _ _ _ _ _ _ _ _ _ _ [(.int lv)]
  refine Go.istoreN C d10_8 rfl (Ls' := #[.val (.ref w), .val (.ref t), .val (.int lv), .unset, .unset, .unset]) rfl ?_
  refine Go.aloadN C d10_9 rfl rfl rfl ?_
  refine Go.aloadN C d10_10 rfl rfl rfl ?_
  refine Go.gf C (wd hw 79 rfl) 1 2 rfl rfl d10_11 rfl ?_
  refine Go.iloadN C d10_14 rfl rfl ?_
  refine Go.callP C (y := yN13) (a := w) (as := [(.long D), (.int lv)]) (rest := []) (wd hw 89 rfl) (wd hw 90 rfl) (sel_priv (y := yN13) (wd hw 19 rfl) (wd hw 90 rfl) (wd hw 91 rfl) (by decide)) (wd hw 91 rfl) (wd hw 92 rfl) (wd hw 20 rfl) (fun _ r => r.exa 0 rfl) (m_dig l Z a0 hw _ hdg) rfl d10_15 (q := 18) rfl (by decide) rfl (na := 2) (by decide +kernel) rfl (by decide) (W := 0) rfl (by decide) (by decide) (by decide) (k' := 0) (n' := 0) rfl rfl ?_
  rintro _ _ ⟨rfl, rfl⟩
  show Go _ _ _ _ _ _ _ _ _ _ [(.int dg)]
  refine Go.istoreN C d10_18 rfl (Ls' := #[.val (.ref w), .val (.ref t), .val (.int lv), .val (.int dg), .unset, .unset]) rfl ?_
  refine Go.aloadN C d10_19 rfl rfl rfl ?_
  refine Go.gf C (wd hw 46 rfl) 0 4 rfl rfl d10_20 rfl ?_
  refine Go.iloadN C d10_23 rfl rfl ?_
  refine Go.aaload C (fun _ r => r.arr 6 rfl) rfl h0 (v := (.ref sl)) hvs d10_24 (q := 25) rfl ?_
  refine Go.iloadN C d10_25 rfl rfl ?_
  refine Go.aaload C (fun _ r => r.arr 4 rfl) rfl g0 (v := (.ref a)) hhs d10_26 (q := 27) rfl ?_
  refine Go.astore C d10_27 rfl rfl (Ls' := #[.val (.ref w), .val (.ref t), .val (.int lv), .val (.int dg), .val (.ref a), .unset]) rfl ?_
  refine Go.aloadN C d10_29 rfl rfl rfl ?_
  refine Go.aload C d10_30 rfl rfl rfl ?_
  refine Go.acmpYes C d10_32 (by decide) (q := 77) rfl rfl rfl (XT.aa_ne_t hne) ?_
  refine Go.aloadN C d10_77 rfl rfl rfl ?_
  refine Go.gf C (wd hw 101 rfl) 1 4 rfl rfl d10_78 rfl ?_
  refine Go.aloadN C d10_81 rfl rfl rfl ?_
  refine Go.gf C (wd hw 99 rfl) 1 3 rfl rfl d10_82 rfl ?_
  refine Go.pf C (wd hw 99 rfl) Via.refl 2 3 rfl rfl (wd hw 100 rfl) (wd hw 6 rfl) (ty := (.object "com/example/charkha/charkha/Timeout")) (by decide) rfl rfl d10_85 rfl (M' := (wE w rA sh dm bt sA fA cA tk rc :: tE t .null .null D (.ref b) (.ref a) s0 :: tE a .null .null Da (.ref b) pa s1 :: tE b .null .null Db nb pb s2 :: aT sl hs :: aJ fl ws :: aS sA vs :: aF fA fs :: aI cA cs :: aT rA rv :: F)) rfl ?_
  refine Go.aloadN C d10_88 rfl rfl rfl ?_
  refine Go.gf C (wd hw 99 rfl) 1 3 rfl rfl d10_89 rfl ?_
  refine Go.nonnullYes C d10_92 (by decide) (q := 107) rfl rfl (by simp) ?_
  refine Go.aloadN C d10_107 rfl rfl rfl ?_
  refine Go.gf C (wd hw 99 rfl) 1 3 rfl rfl d10_108 rfl ?_
  refine Go.aloadN C d10_111 rfl rfl rfl ?_
  refine Go.gf C (wd hw 101 rfl) 1 4 rfl rfl d10_112 rfl ?_
  refine Go.pf C (wd hw 101 rfl) Via.refl 3 4 rfl rfl (wd hw 102 rfl) (wd hw 6 rfl) (ty := (.object "com/example/charkha/charkha/Timeout")) (by decide) rfl rfl d10_115 rfl (M' := (wE w rA sh dm bt sA fA cA tk rc :: tE t .null .null D (.ref b) (.ref a) s0 :: tE a .null .null Da (.ref b) pa s1 :: tE b .null .null Db nb (.ref a) s2 :: aT sl hs :: aJ fl ws :: aS sA vs :: aF fA fs :: aI cA cs :: aT rA rv :: F)) rfl ?_
  refine Go.aloadN C d10_118 rfl rfl rfl ?_
  refine Go.aconstNull C d10_119 rfl ?_
  refine Go.pf C (wd hw 101 rfl) Via.refl 1 4 rfl rfl (wd hw 102 rfl) (wd hw 6 rfl) (ty := (.object "com/example/charkha/charkha/Timeout")) (by decide) rfl rfl d10_120 rfl (M' := (wE w rA sh dm bt sA fA cA tk rc :: tE t .null .null D (.ref b) .null s0 :: tE a .null .null Da (.ref b) pa s1 :: tE b .null .null Db nb (.ref a) s2 :: aT sl hs :: aJ fl ws :: aS sA vs :: aF fA fs :: aI cA cs :: aT rA rv :: F)) rfl ?_
  refine Go.aloadN C d10_123 rfl rfl rfl ?_
  refine Go.aconstNull C d10_124 rfl ?_
  refine Go.pf C (wd hw 99 rfl) Via.refl 1 3 rfl rfl (wd hw 100 rfl) (wd hw 6 rfl) (ty := (.object "com/example/charkha/charkha/Timeout")) (by decide) rfl rfl d10_125 rfl (M' := (wE w rA sh dm bt sA fA cA tk rc :: tE t .null .null D .null .null s0 :: tE a .null .null Da (.ref b) pa s1 :: tE b .null .null Db nb (.ref a) s2 :: aT sl hs :: aJ fl ws :: aS sA vs :: aF fA fs :: aI cA cs :: aT rA rv :: F)) rfl ?_
  refine Go.pick (M' := (tE t .null .null D .null .null s0 :: tE a .null .null Da (.ref b) pa s1 :: tE b .null .null Db nb (.ref a) s2 :: aT sl hs :: aJ fl ws :: wE w rA sh dm bt sA fA cA tk rc :: aS sA vs :: aF fA fs :: aI cA cs :: aT rA rv :: F)) 10 [1, 2, 3, 4, 5, 0, 6, 7, 8, 9] (by decide) (by decide) rfl ?_
  refine Go.ret0 C rfl d10_128 (by decide) (by decide) ?_
  exact ⟨rfl, rfl⟩
theorem d11_0 : decode prog_12_method_3_code 0 = .ok (.aload_n 0, 1) := by decide +kernel
theorem d11_1 : decode prog_12_method_3_code 1 = .ok (.getfield 13, 3) := by decide +kernel
theorem d11_4 : decode prog_12_method_3_code 4 = .ok (.aload_n 0, 1) := by decide +kernel
theorem d11_5 : decode prog_12_method_3_code 5 = .ok (.getfield 63, 3) := by decide +kernel
theorem d11_8 : decode prog_12_method_3_code 8 = .ok (.aload_n 1, 1) := by decide +kernel
theorem d11_9 : decode prog_12_method_3_code 9 = .ok (.aastore, 1) := by decide +kernel
theorem d11_10 : decode prog_12_method_3_code 10 = .ok (.aload_n 0, 1) := by decide +kernel
theorem d11_11 : decode prog_12_method_3_code 11 = .ok (.dup, 1) := by decide +kernel
theorem d11_12 : decode prog_12_method_3_code 12 = .ok (.getfield 63, 3) := by decide +kernel
theorem d11_15 : decode prog_12_method_3_code 15 = .ok (.iconst 1, 1) := by decide +kernel
theorem d11_16 : decode prog_12_method_3_code 16 = .ok (.iadd, 1) := by decide +kernel
theorem d11_17 : decode prog_12_method_3_code 17 = .ok (.putfield 63, 3) := by decide +kernel
theorem d11_20 : decode prog_12_method_3_code 20 = .ok (.aload_n 0, 1) := by decide +kernel
theorem d11_21 : decode prog_12_method_3_code 21 = .ok (.getfield 63, 3) := by decide +kernel
theorem d11_24 : decode prog_12_method_3_code 24 = .ok (.bipush 64, 2) := by decide +kernel
theorem d11_26 : decode prog_12_method_3_code 26 = .ok (.if_icmp .ne 7, 3) := by decide +kernel
theorem d11_33 : decode prog_12_method_3_code 33 = .ok (.return_, 1) := by decide +kernel
theorem pn_11 : plainFor yN22 = true := by first | (apply plainFor_of_name; simp [plainName, overriddenIn]; done) | decide +kernel
theorem m_remove0 (l : Launch) (Z : State) (a0 : Array Value) (hw : HW Z a0) (F : List Ent) {w sA fA cA rA : Addr} {sh : Int32} {dm : Int64} {bt : Int32} {tk : Int64} {rv : List Value} {D : Int64} {uu : Value} {t : Addr} {nt pt : Value} {s0 : Int32} (hrv : rv[(0 : Int32).toNatClampNeg]? = some uu) :
    Met l Z yN22 prog_12_method_3_code 2 none { frames := 1, cells := 0, slots := 0, locals := 20 } #[(.ref w), (.ref t)] (tE t .null .null D nt pt s0 :: wE w rA sh dm bt sA fA cA tk 0 :: aT rA rv :: F) (fun r M' => r = none ∧ M' = (tE t .null .null D nt pt s0 :: wE w rA sh dm bt sA fA cA tk 1 :: aT rA (rv.set (0 : Int32).toNatClampNeg (.ref t)) :: F)) := by
  refine Met.of_go pn_11 (Ls := #[.val (.ref w), .val (.ref t)]) (fun m => rfl) ?_
  intro E C
  refine Go.aloadN C d11_0 rfl rfl rfl ?_
  refine Go.gf C (wd hw 27 rfl) 1 0 rfl rfl d11_1 rfl ?_
  refine Go.aloadN C d11_4 rfl rfl rfl ?_
  refine Go.gf C (wd hw 64 rfl) 1 8 rfl rfl d11_5 rfl ?_
  refine Go.aloadN C d11_8 rfl rfl rfl ?_
  refine Go.aastore C (i := 2) rfl (by decide) (own_lt hrv) (fun _ r => Or.inr ⟨_, rfl, Ins.self (r.exa 0 rfl)⟩) d11_9 (q := 10) rfl (M' := (tE t .null .null D nt pt s0 :: wE w rA sh dm bt sA fA cA tk 0 :: aT rA (rv.set (0 : Int32).toNatClampNeg (.ref t)) :: F)) rfl ?_
  refine Go.aloadN C d11_10 rfl rfl rfl ?_
  refine Go.dup C d11_11 rfl rfl ?_
  refine Go.gf C (wd hw 64 rfl) 1 8 rfl rfl d11_12 rfl ?_
  refine Go.iconst C d11_15 rfl (v := (1 : Int32)) rfl ?_
  refine Go.iadd C d11_16 rfl ?_
  refine Go.castI (w := (1 : Int32)) (by decide) ?_
  refine Go.pf C (wd hw 64 rfl) Via.refl 1 8 rfl rfl (wd hw 65 rfl) (wd hw 19 rfl) (ty := .int) (by decide) rfl rfl d11_17 rfl (M' := (tE t .null .null D nt pt s0 :: wE w rA sh dm bt sA fA cA tk 1 :: aT rA (rv.set (0 : Int32).toNatClampNeg (.ref t)) :: F)) rfl ?_
  refine Go.aloadN C d11_20 rfl rfl rfl ?_
  refine Go.gf C (wd hw 64 rfl) 1 8 rfl rfl d11_21 rfl ?_
  refine Go.bipush C d11_24 rfl (v := (64 : Int32)) (by decide) ?_
  refine Go.icmpYes C d11_26 (by decide) (q := 33) rfl (XT.ii_ne_t (by decide)) ?_
  refine Go.ret0 C rfl d11_33 (by decide) (by decide) ?_
  exact ⟨rfl, rfl⟩
theorem d12_0 : decode prog_4_method_1_code 0 = .ok (.aload_n 0, 1) := by decide +kernel
theorem d12_1 : decode prog_4_method_1_code 1 = .ok (.invokespecial 1, 3) := by decide +kernel
theorem d12_4 : decode prog_4_method_1_code 4 = .ok (.aload_n 0, 1) := by decide +kernel
theorem d12_5 : decode prog_4_method_1_code 5 = .ok (.aload_n 1, 1) := by decide +kernel
theorem d12_6 : decode prog_4_method_1_code 6 = .ok (.putfield 7, 3) := by decide +kernel
theorem d12_9 : decode prog_4_method_1_code 9 = .ok (.aload_n 0, 1) := by decide +kernel
theorem d12_10 : decode prog_4_method_1_code 10 = .ok (.aload_n 2, 1) := by decide +kernel
theorem d12_11 : decode prog_4_method_1_code 11 = .ok (.putfield 13, 3) := by decide +kernel
theorem d12_14 : decode prog_4_method_1_code 14 = .ok (.return_, 1) := by decide +kernel
theorem pn_12 : plainFor yN2 = true := by first | (apply plainFor_of_name; simp [plainName, overriddenIn]; done) | decide +kernel
theorem m_tinit (l : Launch) (Z : State) (a0 : Array Value) (hw : HW Z a0) (F : List Ent) {t : Addr}  :
    Met l Z yN2 prog_4_method_1_code 3 none { frames := 1, cells := 0, slots := 0, locals := 12 } #[(.ref t), .null, .null] (tE t .null .null 0 .null .null 0 :: F) (fun r M' => r = none ∧ M' = (tE t .null .null 0 .null .null 0 :: F)) := by
  refine Met.of_go pn_12 (Ls := #[.val (.ref t), .val .null, .val .null]) (fun m => rfl) ?_
  intro E C
  refine Go.aloadN C d12_0 rfl rfl rfl ?_
  refine Go.initO C (wd hw 11 rfl) (wd hw 12 rfl) (wd hw 13 rfl) d12_1 (q := 4) rfl rfl (by decide) (W := 0) rfl (by decide) ?_
  refine Go.aloadN C d12_4 rfl rfl rfl ?_
  refine Go.aloadN C d12_5 rfl rfl rfl ?_
  refine Go.putF C (host := "") (i := 0) (j := 0) (Or.inl (wd hw 14 rfl)) Via.refl rfl rfl (Or.inr ⟨(wd hw 15 rfl), rfl, rfl⟩) (wd hw 6 rfl) (ty := (.object "com/example/charkha/charkha/WheelTimer")) (by decide) rfl rfl d12_6 (q := 9) rfl (M' := (tE t .null .null 0 .null .null 0 :: F)) rfl ?_
  refine Go.aloadN C d12_9 rfl rfl rfl ?_
  refine Go.aloadN C d12_10 rfl rfl rfl ?_
  refine Go.putF C (host := "") (i := 0) (j := 1) (Or.inl (wd hw 16 rfl)) Via.refl rfl rfl (Or.inr ⟨(wd hw 17 rfl), rfl, rfl⟩) (wd hw 6 rfl) (ty := (.object "java/lang/Runnable")) (by decide) rfl rfl d12_11 (q := 14) rfl (M' := (tE t .null .null 0 .null .null 0 :: F)) rfl ?_
  refine Go.ret0 C rfl d12_14 (by decide) (by decide) ?_
  exact ⟨rfl, rfl⟩
theorem d13_0 : decode prog_12_method_1_code 0 = .ok (.aload_n 0, 1) := by decide +kernel
theorem d13_1 : decode prog_12_method_1_code 1 = .ok (.invokespecial 3, 3) := by decide +kernel
theorem d13_4 : decode prog_12_method_1_code 4 = .ok (.aload_n 0, 1) := by decide +kernel
theorem d13_5 : decode prog_12_method_1_code 5 = .ok (.bipush 64, 2) := by decide +kernel
theorem d13_7 : decode prog_12_method_1_code 7 = .ok (.anewarray 11, 3) := by decide +kernel
theorem d13_10 : decode prog_12_method_1_code 10 = .ok (.putfield 13, 3) := by decide +kernel
theorem d13_13 : decode prog_12_method_1_code 13 = .ok (.aload_n 0, 1) := by decide +kernel
theorem d13_14 : decode prog_12_method_1_code 14 = .ok (.iload_n 1, 1) := by decide +kernel
theorem d13_15 : decode prog_12_method_1_code 15 = .ok (.putfield 17, 3) := by decide +kernel
theorem d13_18 : decode prog_12_method_1_code 18 = .ok (.aload_n 0, 1) := by decide +kernel
theorem d13_19 : decode prog_12_method_1_code 19 = .ok (.lconst 1, 1) := by decide +kernel
theorem d13_20 : decode prog_12_method_1_code 20 = .ok (.iload_n 1, 1) := by decide +kernel
theorem d13_21 : decode prog_12_method_1_code 21 = .ok (.lshl, 1) := by decide +kernel
theorem d13_22 : decode prog_12_method_1_code 22 = .ok (.lconst 1, 1) := by decide +kernel
theorem d13_23 : decode prog_12_method_1_code 23 = .ok (.lsub, 1) := by decide +kernel
theorem d13_24 : decode prog_12_method_1_code 24 = .ok (.putfield 21, 3) := by decide +kernel
theorem d13_27 : decode prog_12_method_1_code 27 = .ok (.aload_n 0, 1) := by decide +kernel
theorem d13_28 : decode prog_12_method_1_code 28 = .ok (.bipush 64, 2) := by decide +kernel
theorem d13_30 : decode prog_12_method_1_code 30 = .ok (.lload_n 2, 1) := by decide +kernel
theorem d13_31 : decode prog_12_method_1_code 31 = .ok (.invokestatic 25, 3) := by decide +kernel
theorem d13_34 : decode prog_12_method_1_code 34 = .ok (.isub, 1) := by decide +kernel
theorem d13_35 : decode prog_12_method_1_code 35 = .ok (.putfield 29, 3) := by decide +kernel
theorem d13_38 : decode prog_12_method_1_code 38 = .ok (.aload_n 0, 1) := by decide +kernel
theorem d13_39 : decode prog_12_method_1_code 39 = .ok (.getfield 29, 3) := by decide +kernel
theorem d13_42 : decode prog_12_method_1_code 42 = .ok (.iload_n 1, 1) := by decide +kernel
theorem d13_43 : decode prog_12_method_1_code 43 = .ok (.iadd, 1) := by decide +kernel
theorem d13_44 : decode prog_12_method_1_code 44 = .ok (.iconst 1, 1) := by decide +kernel
theorem d13_45 : decode prog_12_method_1_code 45 = .ok (.isub, 1) := by decide +kernel
theorem d13_46 : decode prog_12_method_1_code 46 = .ok (.iload_n 1, 1) := by decide +kernel
theorem d13_47 : decode prog_12_method_1_code 47 = .ok (.idiv, 1) := by decide +kernel
theorem d13_48 : decode prog_12_method_1_code 48 = .ok (.istore 4, 2) := by decide +kernel
theorem d13_50 : decode prog_12_method_1_code 50 = .ok (.aload_n 0, 1) := by decide +kernel
theorem d13_51 : decode prog_12_method_1_code 51 = .ok (.iload 4, 2) := by decide +kernel
theorem d13_53 : decode prog_12_method_1_code 53 = .ok (.anewarray 32, 3) := by decide +kernel
theorem d13_56 : decode prog_12_method_1_code 56 = .ok (.putfield 33, 3) := by decide +kernel
theorem d13_59 : decode prog_12_method_1_code 59 = .ok (.aload_n 0, 1) := by decide +kernel
theorem d13_60 : decode prog_12_method_1_code 60 = .ok (.iload 4, 2) := by decide +kernel
theorem d13_62 : decode prog_12_method_1_code 62 = .ok (.anewarray 37, 3) := by decide +kernel
theorem d13_65 : decode prog_12_method_1_code 65 = .ok (.putfield 39, 3) := by decide +kernel
theorem d13_68 : decode prog_12_method_1_code 68 = .ok (.aload_n 0, 1) := by decide +kernel
theorem d13_69 : decode prog_12_method_1_code 69 = .ok (.iload 4, 2) := by decide +kernel
theorem d13_71 : decode prog_12_method_1_code 71 = .ok (.newarray .int, 2) := by decide +kernel
theorem d13_73 : decode prog_12_method_1_code 73 = .ok (.putfield 43, 3) := by decide +kernel
theorem d13_76 : decode prog_12_method_1_code 76 = .ok (.return_, 1) := by decide +kernel
theorem pn_13 : plainFor yN4 = true := by first | (apply plainFor_of_name; simp [plainName, overriddenIn]; done) | decide +kernel
theorem m_winit (l : Launch) (Z : State) (a0 : Array Value) (hw : HW Z a0) (F : List Ent) {w : Addr} {sh bt nl : Int32} {dm last : Int64} (hsh : sh ≠ 0) (hbt : (64 : Int32) - own_n64 last = bt) (hdm : ((1 : Int64) <<< (sh.toInt64 &&& 63)) - (1 : Int64) = dm) (hnl : (bt + sh - (1 : Int32)) / sh = nl) (hn0 : ¬ nl < 0) (hn1 : nl.toNatClampNeg ≤ 63) :
    Met l Z yN4 prog_12_method_1_code 5 none { frames := 2, cells := 4, slots := 253, locals := 30 } #[(.ref w), (.int sh), (.long last)] ((w, .inl ("com/example/charkha/charkha/Wheels", [(("com/example/charkha/charkha/Wheels", "removed", "[Lcom/example/charkha/charkha/Timeout;"), .null), (("com/example/charkha/charkha/Wheels", "shift", "I"), (.int (0 : Int32))), (("com/example/charkha/charkha/Wheels", "digitMask", "J"), (.long (0 : Int64))), (("com/example/charkha/charkha/Wheels", "bits", "I"), (.int (0 : Int32))), (("com/example/charkha/charkha/Wheels", "slots", "[[Lcom/example/charkha/charkha/Timeout;"), .null), (("com/example/charkha/charkha/Wheels", "filed", "[[J"), .null), (("com/example/charkha/charkha/Wheels", "filedSlots", "[I"), .null), (("com/example/charkha/charkha/Wheels", "tick", "J"), (.long (0 : Int64))), (("com/example/charkha/charkha/Wheels", "removedCount", "I"), (.int (0 : Int32)))])) :: F) (fun r M' => r = none ∧ ∃ o6 : Addr, ∃ o5 : Addr, ∃ o4 : Addr, ∃ o3 : Addr, M' = (aI o6 (List.replicate nl.toNatClampNeg (.int 0)) :: aF o5 (List.replicate nl.toNatClampNeg .null) :: aS o4 (List.replicate nl.toNatClampNeg .null) :: aT o3 (List.replicate (64 : Int32).toNatClampNeg .null) :: wE w o3 sh dm bt o4 o5 o6 0 0 :: F)) := by
  refine Met.of_go pn_13 (Ls := #[.val (.ref w), .val (.int sh), .val (.long last), .second, .unset]) (fun m => rfl) ?_
  intro E C
  refine Go.aloadN C d13_0 rfl rfl rfl ?_
  refine Go.initO C (wd hw 24 rfl) (wd hw 12 rfl) (wd hw 13 rfl) d13_1 (q := 4) rfl rfl (by decide) (W := 0) rfl (by decide) ?_
  refine Go.aloadN C d13_4 rfl rfl rfl ?_
  refine Go.bipush C d13_5 rfl (v := (64 : Int32)) (by decide) ?_
  refine Go.anewarray C (wd hw 25 rfl) (wd hw 26 rfl) (by decide) (cap := 64) (by decide) (by decide) (vs := (List.replicate (64 : Int32).toNatClampNeg .null)) rfl d13_7 (q := 10) rfl (by decide) (by decide) (k' := 1) (n' := 64) rfl rfl (fun o3 => ?_)
  refine Go.putF C (host := "") (i := 1) (j := 0) (Or.inl (wd hw 27 rfl)) Via.refl rfl rfl (Or.inr ⟨(wd hw 28 rfl), rfl, rfl⟩) (wd hw 19 rfl) (ty := (.array (.object "com/example/charkha/charkha/Timeout"))) (by decide) rfl rfl d13_10 (q := 13) rfl (M' := (aT o3 (List.replicate (64 : Int32).toNatClampNeg .null) :: (w, .inl ("com/example/charkha/charkha/Wheels", [(("com/example/charkha/charkha/Wheels", "removed", "[Lcom/example/charkha/charkha/Timeout;"), (.ref o3)), (("com/example/charkha/charkha/Wheels", "shift", "I"), (.int (0 : Int32))), (("com/example/charkha/charkha/Wheels", "digitMask", "J"), (.long (0 : Int64))), (("com/example/charkha/charkha/Wheels", "bits", "I"), (.int (0 : Int32))), (("com/example/charkha/charkha/Wheels", "slots", "[[Lcom/example/charkha/charkha/Timeout;"), .null), (("com/example/charkha/charkha/Wheels", "filed", "[[J"), .null), (("com/example/charkha/charkha/Wheels", "filedSlots", "[I"), .null), (("com/example/charkha/charkha/Wheels", "tick", "J"), (.long (0 : Int64))), (("com/example/charkha/charkha/Wheels", "removedCount", "I"), (.int (0 : Int32)))])) :: F)) rfl ?_
  refine Go.aloadN C d13_13 rfl rfl rfl ?_
  refine Go.iloadN C d13_14 rfl rfl ?_
  refine Go.putF C (host := "") (i := 1) (j := 1) (Or.inl (wd hw 29 rfl)) Via.refl rfl rfl (Or.inr ⟨(wd hw 30 rfl), rfl, rfl⟩) (wd hw 19 rfl) (ty := .int) (by decide) rfl rfl d13_15 (q := 18) rfl (M' := (aT o3 (List.replicate (64 : Int32).toNatClampNeg .null) :: (w, .inl ("com/example/charkha/charkha/Wheels", [(("com/example/charkha/charkha/Wheels", "removed", "[Lcom/example/charkha/charkha/Timeout;"), (.ref o3)), (("com/example/charkha/charkha/Wheels", "shift", "I"), (.int sh)), (("com/example/charkha/charkha/Wheels", "digitMask", "J"), (.long (0 : Int64))), (("com/example/charkha/charkha/Wheels", "bits", "I"), (.int (0 : Int32))), (("com/example/charkha/charkha/Wheels", "slots", "[[Lcom/example/charkha/charkha/Timeout;"), .null), (("com/example/charkha/charkha/Wheels", "filed", "[[J"), .null), (("com/example/charkha/charkha/Wheels", "filedSlots", "[I"), .null), (("com/example/charkha/charkha/Wheels", "tick", "J"), (.long (0 : Int64))), (("com/example/charkha/charkha/Wheels", "removedCount", "I"), (.int (0 : Int32)))])) :: F)) rfl ?_
  refine Go.aloadN C d13_18 rfl rfl rfl ?_
  refine Go.lconst C d13_19 rfl (v := (1 : Int64)) rfl ?_
  refine Go.iloadN C d13_20 rfl rfl ?_
  refine Go.lshl C d13_21 rfl ?_
  refine Go.lconst C d13_22 rfl (v := (1 : Int64)) rfl ?_
  refine Go.lsub C d13_23 rfl ?_
  refine Go.castJ (w := dm) hdm ?_
  refine Go.putF C (host := "") (i := 1) (j := 2) (Or.inl (wd hw 31 rfl)) Via.refl rfl rfl (Or.inr ⟨(wd hw 32 rfl), rfl, rfl⟩) (wd hw 19 rfl) (ty := .long) (by decide) rfl rfl d13_24 (q := 27) rfl (M' := (aT o3 (List.replicate (64 : Int32).toNatClampNeg .null) :: (w, .inl ("com/example/charkha/charkha/Wheels", [(("com/example/charkha/charkha/Wheels", "removed", "[Lcom/example/charkha/charkha/Timeout;"), (.ref o3)), (("com/example/charkha/charkha/Wheels", "shift", "I"), (.int sh)), (("com/example/charkha/charkha/Wheels", "digitMask", "J"), (.long dm)), (("com/example/charkha/charkha/Wheels", "bits", "I"), (.int (0 : Int32))), (("com/example/charkha/charkha/Wheels", "slots", "[[Lcom/example/charkha/charkha/Timeout;"), .null), (("com/example/charkha/charkha/Wheels", "filed", "[[J"), .null), (("com/example/charkha/charkha/Wheels", "filedSlots", "[I"), .null), (("com/example/charkha/charkha/Wheels", "tick", "J"), (.long (0 : Int64))), (("com/example/charkha/charkha/Wheels", "removedCount", "I"), (.int (0 : Int32)))])) :: F)) rfl ?_
  refine Go.aloadN C d13_27 rfl rfl rfl ?_
  refine Go.bipush C d13_28 rfl (v := (64 : Int32)) (by decide) ?_
  refine Go.lloadN C d13_30 rfl rfl ?_
  refine Go.callS C (y := yN5) (as := [(.long last)]) (rest := [(.int (64 : Int32)), (.ref w)]) (wd hw 33 rfl) (wd hw 34 rfl) (wd hw 35 rfl) (wd hw 36 rfl) (m_n64 l Z a0 hw _) rfl d13_31 (q := 34) rfl (by decide) rfl (na := 1) (by decide +kernel) rfl (by decide) (W := 2) rfl (by decide) (by decide) (by decide) (k' := 1) (n' := 64) rfl rfl ?_
  rintro _ _ ⟨rfl, rfl⟩
  show Go _ _ _ _ _ _ _ _ _ _ [(.int (own_n64 last)), (.int (64 : Int32)), (.ref w)]
  refine Go.isub C d13_34 rfl ?_
  refine Go.castI (w := bt) hbt ?_
  refine Go.putF C (host := "") (i := 1) (j := 3) (Or.inl (wd hw 42 rfl)) Via.refl rfl rfl (Or.inr ⟨(wd hw 43 rfl), rfl, rfl⟩) (wd hw 19 rfl) (ty := .int) (by decide) rfl rfl d13_35 (q := 38) rfl (M' := (aT o3 (List.replicate (64 : Int32).toNatClampNeg .null) :: (w, .inl ("com/example/charkha/charkha/Wheels", [(("com/example/charkha/charkha/Wheels", "removed", "[Lcom/example/charkha/charkha/Timeout;"), (.ref o3)), (("com/example/charkha/charkha/Wheels", "shift", "I"), (.int sh)), (("com/example/charkha/charkha/Wheels", "digitMask", "J"), (.long dm)), (("com/example/charkha/charkha/Wheels", "bits", "I"), (.int bt)), (("com/example/charkha/charkha/Wheels", "slots", "[[Lcom/example/charkha/charkha/Timeout;"), .null), (("com/example/charkha/charkha/Wheels", "filed", "[[J"), .null), (("com/example/charkha/charkha/Wheels", "filedSlots", "[I"), .null), (("com/example/charkha/charkha/Wheels", "tick", "J"), (.long (0 : Int64))), (("com/example/charkha/charkha/Wheels", "removedCount", "I"), (.int (0 : Int32)))])) :: F)) rfl ?_
  refine Go.aloadN C d13_38 rfl rfl rfl ?_
  refine Go.gf C (wd hw 42 rfl) 1 3 rfl rfl d13_39 rfl ?_
  refine Go.iloadN C d13_42 rfl rfl ?_
  refine Go.iadd C d13_43 rfl ?_
  refine Go.iconst C d13_44 rfl (v := (1 : Int32)) rfl ?_
  refine Go.isub C d13_45 rfl ?_
  refine Go.iloadN C d13_46 rfl rfl ?_
  refine Go.idiv C d13_47 rfl hsh ?_
  refine Go.castI (w := nl) hnl ?_
  refine Go.istore C d13_48 rfl (Ls' := #[.val (.ref w), .val (.int sh), .val (.long last), .second, .val (.int nl)]) rfl ?_
  refine Go.aloadN C d13_50 rfl rfl rfl ?_
  refine Go.iload C d13_51 rfl rfl ?_
  refine Go.anewarrayA C (t := (.object "com/example/charkha/charkha/Timeout")) rfl (wd hw 44 rfl) (wd hw 45 rfl) hn0 (cap := 63) hn1 (by decide) (vs := (List.replicate nl.toNatClampNeg .null)) rfl d13_53 (q := 56) rfl (by decide) (by decide) (k' := 2) (n' := 127) rfl rfl (fun o4 => ?_)
  refine Go.putF C (host := "") (i := 2) (j := 4) (Or.inl (wd hw 46 rfl)) Via.refl rfl rfl (Or.inr ⟨(wd hw 47 rfl), rfl, rfl⟩) (wd hw 19 rfl) (ty := (.array (.array (.object "com/example/charkha/charkha/Timeout")))) (by decide) rfl rfl d13_56 (q := 59) rfl (M' := (aS o4 (List.replicate nl.toNatClampNeg .null) :: aT o3 (List.replicate (64 : Int32).toNatClampNeg .null) :: (w, .inl ("com/example/charkha/charkha/Wheels", [(("com/example/charkha/charkha/Wheels", "removed", "[Lcom/example/charkha/charkha/Timeout;"), (.ref o3)), (("com/example/charkha/charkha/Wheels", "shift", "I"), (.int sh)), (("com/example/charkha/charkha/Wheels", "digitMask", "J"), (.long dm)), (("com/example/charkha/charkha/Wheels", "bits", "I"), (.int bt)), (("com/example/charkha/charkha/Wheels", "slots", "[[Lcom/example/charkha/charkha/Timeout;"), (.ref o4)), (("com/example/charkha/charkha/Wheels", "filed", "[[J"), .null), (("com/example/charkha/charkha/Wheels", "filedSlots", "[I"), .null), (("com/example/charkha/charkha/Wheels", "tick", "J"), (.long (0 : Int64))), (("com/example/charkha/charkha/Wheels", "removedCount", "I"), (.int (0 : Int32)))])) :: F)) rfl ?_
  refine Go.aloadN C d13_59 rfl rfl rfl ?_
  refine Go.iload C d13_60 rfl rfl ?_
  refine Go.anewarrayA C (t := .long) rfl (wd hw 48 rfl) (wd hw 49 rfl) hn0 (cap := 63) hn1 (by decide) (vs := (List.replicate nl.toNatClampNeg .null)) rfl d13_62 (q := 65) rfl (by decide) (by decide) (k' := 3) (n' := 190) rfl rfl (fun o5 => ?_)
  refine Go.putF C (host := "") (i := 3) (j := 5) (Or.inl (wd hw 50 rfl)) Via.refl rfl rfl (Or.inr ⟨(wd hw 51 rfl), rfl, rfl⟩) (wd hw 19 rfl) (ty := (.array (.array .long))) (by decide) rfl rfl d13_65 (q := 68) rfl (M' := (aF o5 (List.replicate nl.toNatClampNeg .null) :: aS o4 (List.replicate nl.toNatClampNeg .null) :: aT o3 (List.replicate (64 : Int32).toNatClampNeg .null) :: (w, .inl ("com/example/charkha/charkha/Wheels", [(("com/example/charkha/charkha/Wheels", "removed", "[Lcom/example/charkha/charkha/Timeout;"), (.ref o3)), (("com/example/charkha/charkha/Wheels", "shift", "I"), (.int sh)), (("com/example/charkha/charkha/Wheels", "digitMask", "J"), (.long dm)), (("com/example/charkha/charkha/Wheels", "bits", "I"), (.int bt)), (("com/example/charkha/charkha/Wheels", "slots", "[[Lcom/example/charkha/charkha/Timeout;"), (.ref o4)), (("com/example/charkha/charkha/Wheels", "filed", "[[J"), (.ref o5)), (("com/example/charkha/charkha/Wheels", "filedSlots", "[I"), .null), (("com/example/charkha/charkha/Wheels", "tick", "J"), (.long (0 : Int64))), (("com/example/charkha/charkha/Wheels", "removedCount", "I"), (.int (0 : Int32)))])) :: F)) rfl ?_
  refine Go.aloadN C d13_68 rfl rfl rfl ?_
  refine Go.iload C d13_69 rfl rfl ?_
  refine Go.newarray C (ty := .int) (wd hw 52 rfl) rfl (by simp) hn0 (cap := 63) hn1 (by decide) (vs := (List.replicate nl.toNatClampNeg (.int 0))) rfl d13_71 (q := 73) rfl (by decide) (by decide) (k' := 4) (n' := 253) rfl rfl (fun o6 => ?_)
  refine Go.putF C (host := "") (i := 4) (j := 6) (Or.inl (wd hw 53 rfl)) Via.refl rfl rfl (Or.inr ⟨(wd hw 54 rfl), rfl, rfl⟩) (wd hw 19 rfl) (ty := (.array .int)) (by decide) rfl rfl d13_73 (q := 76) rfl (M' := (aI o6 (List.replicate nl.toNatClampNeg (.int 0)) :: aF o5 (List.replicate nl.toNatClampNeg .null) :: aS o4 (List.replicate nl.toNatClampNeg .null) :: aT o3 (List.replicate (64 : Int32).toNatClampNeg .null) :: wE w o3 sh dm bt o4 o5 o6 0 0 :: F)) rfl ?_
  refine Go.ret0 C rfl d13_76 (by decide) (by decide) ?_
  exact ⟨rfl, o6, o5, o4, o3, rfl⟩
section Mets
variable {t0 t1 t2 w sA fA cA rA : Addr} {sh : Int32} {dm : Int64} {bt rc : Int32} {tk : Int64} {rv : List Value} {D : Nat → Int64} {s : Nat → Int32} {p nx : Nat → Value} {vs fs cs : List Value} {LS : List Ent} {n : Nat} {zs : Nat → Nat} {B : List Bk} {R Y ks : List Nat}
theorem own_fileK (l : Launch) (Z : State) (a0 : Array Value) (hw : HW Z a0) (hZ : Zs sh bt n zs) (hI : InvK (own_t3 t0 t1 t2) sh dm tk n zs D p nx vs fs cs LS B R ks) {i lN d : Nat} (hi : i ∈ R) (hl : lN < n) (hd : d < zs lN) (hP : Pc sh dm tk (D i) lN d) {ti : Addr} (hti : own_t3 t0 t1 t2 i = ti) :
    Met l Z yN11 prog_12_method_10_code 6 none { frames := 6, cells := own_fc ks lN, slots := own_fz zs ks lN, locals := 120 } #[.ref w, .ref ti] (WM t0 t1 t2 w sA fA cA rA sh dm bt rc tk rv D s p nx vs fs cs LS) (fun r M' => r = none ∧ ∃ p' nx' vs' fs' cs' LS' B', M' = WM t0 t1 t2 w sA fA cA rA sh dm bt rc tk rv D s p' nx' vs' fs' cs' LS' ∧ InvK (own_t3 t0 t1 t2) sh dm tk n zs D p' nx' vs' fs' cs' LS' B' (R.erase i) (own_ins ks lN) ∧ (own_fl B').Perm (i :: own_fl B) ∧ ∀ j ∈ R, j ≠ i → p' j = p j ∧ nx' j = nx j) := by
  subst hti
  obtain ⟨sa, fa, H, W, rfl, rfl, rfl, rfl, hC⟩ := hI
  obtain ⟨hn63, hsh, hzs⟩ := hZ
  have hz := hzs lN hl
  have hi3 : i < 3 := hC.lt3 (List.mem_append_right _ hi)
  have hd31 : d < 2147483648 := by omega
  have hl31 : lN < 2147483648 := by omega
  have e3 : (own_rm n (own_cn B))[(Int32.ofNat lN).toNatClampNeg]? = some (.int (Int32.ofNat (own_ct B lN))) := by rw [own_cl hl31, own_rm_get hl]; rfl
  by_cases hk : lN ∈ ks
  · rw [show own_fc ks lN = 0 from if_pos hk, show own_fz zs ks lN = 0 from if_pos hk, show own_ins ks lN = ks from if_pos hk]
    have e1 : (own_rm n (own_rf ks sa))[(Int32.ofNat lN).toNatClampNeg]? = some (.ref (sa lN)) := by rw [own_cl hl31, own_rm_get hl, own_rf, if_pos hk]
    have e2 : (own_rm n (own_rf ks fa))[(Int32.ofNat lN).toNatClampNeg]? = some (.ref (fa lN)) := by rw [own_cl hl31, own_rm_get hl, own_rf, if_pos hk]
    have e4 : (own_rm ((zs lN + 63) / 64) fun w => .long (W lN w))[(Int32.ofNat (d / 64)).toNatClampNeg]? = some (.long (W lN (d / 64))) := by rw [own_cl (by omega), own_rm_get (by omega)]
    have e5 : (own_rm (zs lN) (H lN))[(Int32.ofNat d).toNatClampNeg]? = some (H lN d) := by rw [own_cl hd31, own_rm_get hd]
    by_cases hnull : H lN d = .null
    · rw [hnull] at e5
      refine Met.conv (own_pa (U := List.map (own_tc (own_t3 t0 t1 t2) D s p nx) [0, 1, 2]) (own_sp1 hi3 rfl (fun _ _ => rfl)) (own_spk hC.1 hk rfl (fun _ _ => rfl)) (own_spk hC.1 hk rfl (fun _ _ => rfl))) (m_fileB l Z a0 hw _ (own_nn hl31) e1 e2 e3 (own_nn hd31) (own_us6 hd31) (own_nn (by omega)) e4 hsh hP.1 hP.2 e5) ?_
      rintro _ _ ⟨rfl, rfl⟩
      refine ⟨_, (own_pa (U := List.map (own_tc (own_t3 t0 t1 t2) D s (own_upd p i (.ref (own_t3 t0 t1 t2 i))) (own_upd nx i .null)) [0, 1, 2]) (own_sp1 (f := own_tc (own_t3 t0 t1 t2) D s p nx) hi3 (by rw [own_tc, own_upd_s, own_upd_s]) (fun j hj => by rw [own_tc, own_upd_n hj, own_upd_n hj])) (own_spk (g := own_ac sa zs (own_upd2 H lN d _)) hC.1 hk (own_acS hd31) (fun j hj => own_acN hj)) (own_spk (g := own_bc fa zs (own_upd2 W lN (d / 64) _)) hC.1 hk (own_bcS (by omega)) (fun j hj => own_bcN hj))).symm, rfl, _, _, _, _, _, _, _, rfl, ⟨sa, fa, _, _, rfl, rfl, ?_, rfl, hC.add hk hd hz.2 hnull hi hP⟩, List.Perm.refl _, fun j _ hj => ⟨own_upd_n hj, own_upd_n hj⟩⟩
      rw [own_cl hl31]; exact own_cs_add
    · obtain ⟨c, hc⟩ := hC.2.2.2.1 lN hk d hnull
      obtain ⟨-, -, ⟨a, r, hcr, hHa⟩, hL, hPc⟩ := hC.2.2.2.2.1 _ hc
      have hHa : H lN d = .ref (own_t3 t0 t1 t2 a) := hHa
      have hcr : c = a :: r := hcr
      subst hcr
      rw [hHa] at e5
      have ha : a ∈ own_fl B := own_fl_mem hc (List.mem_cons_self ..)
      have ha3 : a < 3 := hC.lt3 (List.mem_append_left _ ha)
      have hnd := List.nodup_append.mp hC.nd
      have hia : i ≠ a := fun e => hnd.2.2 a ha i hi e.symm
      have hpe : ∀ r' : List Nat, ((a :: r ++ [i]) ++ R.erase i).Perm (a :: r ++ R) := fun _ => by
        rw [List.append_assoc]; exact ((List.perm_cons_erase hi).symm.append_left _)
      have hPi : ∀ j ∈ a :: r ++ [i], Pc sh dm tk (D j) lN d := fun j hj => by
        rcases List.mem_append.mp hj with q | q
        · exact hPc j q
        · rw [List.mem_singleton.mp q]; exact hP
      have hfl : (own_fl ((lN, d, a :: r ++ [i]) :: B.erase (lN, d, a :: r))).Perm (i :: own_fl B) := by
        have h1 : (own_fl B).Perm (a :: r ++ own_fl (B.erase (lN, d, a :: r))) := own_fl_erase hc
        show (a :: r ++ [i] ++ own_fl (B.erase (lN, d, a :: r))).Perm _
        refine List.Perm.trans ?_ (h1.symm.cons i)
        rw [List.append_assoc]
        exact List.perm_middle
      match r, hL with
      | [], hL =>
        refine Met.conv (own_pa (U := List.map (own_tc (own_t3 t0 t1 t2) D s p nx) [0, 1, 2]) (own_sp2 hi3 ha3 hia rfl (e' := tE (own_t3 t0 t1 t2 a) .null .null (D a) (nx a) (.ref (own_t3 t0 t1 t2 a)) (s a)) (by rw [own_tc, hL.1]) (fun _ _ _ => rfl)) (own_spk hC.1 hk rfl (fun _ _ => rfl)) (own_spk hC.1 hk rfl (fun _ _ => rfl))) (m_fileC l Z a0 hw _ (own_nn hl31) e1 e2 e3 (own_nn hd31) (own_us6 hd31) (own_nn (by omega)) e4 hsh hP.1 hP.2 e5) ?_
        rintro _ _ ⟨rfl, rfl⟩
        have hx := hC.rep (p' := own_upd (own_upd p i (.ref (own_t3 t0 t1 t2 a))) a (.ref (own_t3 t0 t1 t2 i))) (nx' := own_upd (own_upd nx i .null) a (.ref (own_t3 t0 t1 t2 i))) hc (hpe []) (by
          refine ⟨own_upd_s, own_upd_s, ?_, ?_⟩
          · rw [own_upd_n hia, own_upd_s]
          · rw [own_upd_n hia, own_upd_s]) (fun j h1 h2 => by
          simp at h1 h2
          exact ⟨by rw [own_upd_n h2.1, own_upd_n h2.2], by rw [own_upd_n h2.1, own_upd_n h2.2]⟩) hPi
        rw [own_upd2_id hHa] at hx
        refine ⟨_, (own_pa (U := List.map (own_tc (own_t3 t0 t1 t2) D s (own_upd (own_upd p i (.ref (own_t3 t0 t1 t2 a))) a (.ref (own_t3 t0 t1 t2 i))) (own_upd (own_upd nx i .null) a (.ref (own_t3 t0 t1 t2 i)))) [0, 1, 2]) (own_sp2 (f := own_tc (own_t3 t0 t1 t2) D s p nx) hi3 ha3 hia (by rw [own_tc, own_upd_n hia, own_upd_n hia, own_upd_s, own_upd_s]) (by rw [own_tc, own_upd_s, own_upd_s]) (fun j hj hj' => by rw [own_tc, own_upd_n hj', own_upd_n hj', own_upd_n hj, own_upd_n hj])) (own_spk (f := own_ac sa zs H) (g := own_ac sa zs H) hC.1 hk rfl (fun _ _ => rfl)) (own_spk (f := own_bc fa zs W) (g := own_bc fa zs W) hC.1 hk rfl (fun _ _ => rfl))).symm, rfl, _, _, _, _, _, _, _, rfl, ⟨sa, fa, _, _, rfl, rfl, own_cs_rep hc, rfl, hx⟩, hfl, fun j hjR hj => have h : j ≠ a := (fun e => hnd.2.2 a ha j hjR e.symm); ⟨by rw [own_upd_n h, own_upd_n hj], by rw [own_upd_n h, own_upd_n hj]⟩⟩
      | [b], hL =>
        have hb : b ∈ own_fl B := own_fl_mem hc (by simp)
        have hb3 : b < 3 := hC.lt3 (List.mem_append_left _ hb)
        have hib : i ≠ b := fun e => hnd.2.2 b hb i hi e.symm
        have hab : a ≠ b := fun e => by
          have := ((own_fl_erase hc).nodup_iff.mp hnd.1)
          subst e
          have := (List.nodup_append.mp this).1
          simp at this
        have h3 : [i, a, b].Perm [0, 1, 2] := own_perm3 hi3 ha3 hb3 hia hib hab
        refine Met.conv (own_pa (U := List.map (own_tc (own_t3 t0 t1 t2) D s p nx) [0, 1, 2]) (own_sp3 (f := own_tc (own_t3 t0 t1 t2) D s p nx) h3 rfl (e' := tE (own_t3 t0 t1 t2 a) .null .null (D a) (nx a) (.ref (own_t3 t0 t1 t2 b)) (s a)) (by rw [own_tc, hL.1]) rfl) (own_spk hC.1 hk rfl (fun _ _ => rfl)) (own_spk hC.1 hk rfl (fun _ _ => rfl))) (m_fileD l Z a0 hw _ (own_nn hl31) e1 e2 e3 (own_nn hd31) (own_us6 hd31) (own_nn (by omega)) e4 hsh hP.1 hP.2 e5) ?_
        rintro _ _ ⟨rfl, rfl⟩
        have hx := hC.rep (p' := own_upd (own_upd p i (.ref (own_t3 t0 t1 t2 b))) a (.ref (own_t3 t0 t1 t2 i))) (nx' := own_upd (own_upd nx i .null) b (.ref (own_t3 t0 t1 t2 i))) hc (hpe []) (by
          refine ⟨own_upd_s, ?_, ?_, own_upd_s, ?_, ?_⟩
          · rw [own_upd_n hab, own_upd_n hia.symm]; exact hL.2.1
          · rw [own_upd_n hab.symm, own_upd_n hib.symm]; exact hL.2.2.1
          · rw [own_upd_n hia, own_upd_s]
          · rw [own_upd_n hib, own_upd_s]) (fun j h1 h2 => by
          simp at h1 h2
          exact ⟨by rw [own_upd_n h2.1, own_upd_n h2.2.2], by rw [own_upd_n h2.2.1, own_upd_n h2.2.2]⟩) hPi
        rw [own_upd2_id hHa] at hx
        refine ⟨_, (own_pa (U := List.map (own_tc (own_t3 t0 t1 t2) D s (own_upd (own_upd p i (.ref (own_t3 t0 t1 t2 b))) a (.ref (own_t3 t0 t1 t2 i))) (own_upd (own_upd nx i .null) b (.ref (own_t3 t0 t1 t2 i)))) [0, 1, 2]) (own_sp3 (f := own_tc (own_t3 t0 t1 t2) D s p nx) h3 (by rw [own_tc, own_upd_n hia, own_upd_n hib, own_upd_s, own_upd_s]) (by rw [own_tc, own_upd_s, own_upd_n hab, own_upd_n hia.symm]) (by rw [own_tc, own_upd_n hab.symm, own_upd_n hib.symm, own_upd_s])) (own_spk (f := own_ac sa zs H) (g := own_ac sa zs H) hC.1 hk rfl (fun _ _ => rfl)) (own_spk (f := own_bc fa zs W) (g := own_bc fa zs W) hC.1 hk rfl (fun _ _ => rfl))).symm, rfl, _, _, _, _, _, _, _, rfl, ⟨sa, fa, _, _, rfl, rfl, own_cs_rep hc, rfl, hx⟩, hfl, fun j hjR hj => have h : j ≠ a := (fun e => hnd.2.2 a ha j hjR e.symm); have h' : j ≠ b := (fun e => hnd.2.2 b hb j hjR e.symm); ⟨by rw [own_upd_n h, own_upd_n hj], by rw [own_upd_n h', own_upd_n hj]⟩⟩
      | [b, c], hL =>
        exfalso
        have h1 := hC.2.2.2.2.2.2.length_eq
        have h2 := (own_fl_erase hc).length_eq
        have h4 := List.length_pos_of_mem hi
        simp at h1 h2
        omega
      | _ :: _ :: _ :: _, hL => exact absurd hL id
  · rw [show own_fc ks lN = 2 from if_neg hk, show own_fz zs ks lN = zs lN + (zs lN + 63) / 64 from if_neg hk, show own_ins ks lN = lN :: ks from if_neg hk]
    have e1 : (own_rm n (own_rf ks sa))[(Int32.ofNat lN).toNatClampNeg]? = some .null := by rw [own_cl hl31, own_rm_get hl, own_rf, if_neg hk]
    have e2 : (own_rm n (own_rf ks fa))[(Int32.ofNat lN).toNatClampNeg]? = some .null := by rw [own_cl hl31, own_rm_get hl, own_rf, if_neg hk]
    have hz31 : zs lN < 2147483648 := by omega
    refine Met.conv (own_pb (U := List.map (own_tc (own_t3 t0 t1 t2) D s p nx) [0, 1, 2]) (own_sp1 hi3 rfl (fun _ _ => rfl))) (m_fileA l Z a0 hw _ (own_nn hl31) e1 e2 e3 (own_nn hd31) (own_us6 hd31) (own_nn (by omega)) hz.1 (own_wz hz.2) (own_nn hz31) (zc := zs lN) (wc := (zs lN + 63) / 64) (by rw [own_cl hz31]; exact Nat.le_refl _) hz.2 (own_nn (by omega)) (by rw [own_cl (by omega)]; exact Nat.le_refl _) (by omega) (by rw [own_cl hd31, own_cl hz31]; exact hd) (by rw [own_cl (by omega), own_cl (by omega)]; omega) hsh hP.1 hP.2) ?_
    rintro _ _ ⟨rfl, o2, o1, rfl⟩
    have hx := (hC.level hk hl).add (List.mem_cons_self ..) hd hz.2 (if_pos rfl) hi hP
    have hne : ∀ j ∈ ks, j ≠ lN := fun j hj e => hk (e ▸ hj)
    have eA : ks.map (own_ac sa zs H) = ks.map (own_ac (own_upd sa lN o1) zs (own_upd2 (fun l' d' => if l' = lN then .null else H l' d') lN d (.ref (own_t3 t0 t1 t2 i)))) := by
      apply List.map_congr_left
      intro j hj
      rw [own_acN (hne j hj), own_ac, own_ac, own_upd_n (hne j hj), own_rm_ext (fun k _ => (if_neg (hne j hj)).symm)]
    have eB : ks.map (own_bc fa zs W) = ks.map (own_bc (own_upd fa lN o2) zs (own_upd2 (fun l' w => if l' = lN then 0 else W l' w) lN (d / 64) ((if lN = lN then 0 else W lN (d / 64)) ||| ((1 : Int64) <<< ((Int32.ofNat d).toInt64 &&& 63))))) := by
      apply List.map_congr_left
      intro j hj
      rw [own_bcN (hne j hj), own_bc, own_bc, own_upd_n (hne j hj), own_rm_ext (fun k _ => congrArg Value.long (if_neg (hne j hj)).symm)]
    have eA1 : aT o1 ((List.replicate (Int32.ofNat (zs lN)).toNatClampNeg .null).set (Int32.ofNat d).toNatClampNeg (.ref (own_t3 t0 t1 t2 i))) = own_ac (own_upd sa lN o1) zs (own_upd2 (fun l' d' => if l' = lN then .null else H l' d') lN d (.ref (own_t3 t0 t1 t2 i))) lN := by
      rw [own_acS hd31, own_upd_s, own_cl hz31, own_rm_rep, own_rm_ext (f := fun _ => .null) (g := fun d' => if lN = lN then .null else H lN d') (fun k _ => (if_pos rfl).symm)]
    have eB1 : aJ o2 ((List.replicate (Int32.ofNat ((zs lN + 63) / 64)).toNatClampNeg (.long 0)).set (Int32.ofNat (d / 64)).toNatClampNeg (.long ((0 : Int64) ||| ((1 : Int64) <<< ((Int32.ofNat d).toInt64 &&& 63))))) = own_bc (own_upd fa lN o2) zs (own_upd2 (fun l' w => if l' = lN then 0 else W l' w) lN (d / 64) ((if lN = lN then 0 else W lN (d / 64)) ||| ((1 : Int64) <<< ((Int32.ofNat d).toInt64 &&& 63)))) lN := by
      rw [own_bcS (by omega), own_upd_s, own_cl (by omega), own_rm_rep, own_rm_ext (f := fun _ => .long 0) (g := fun w => .long (if lN = lN then 0 else W lN w)) (fun k _ => congrArg Value.long (if_pos rfl).symm), if_pos rfl]
    refine ⟨_, own_pc (U := List.map (own_tc (own_t3 t0 t1 t2) D s (own_upd p i (.ref (own_t3 t0 t1 t2 i))) (own_upd nx i .null)) [0, 1, 2]) (own_sp1 (f := own_tc (own_t3 t0 t1 t2) D s p nx) hi3 (by rw [own_tc, own_upd_s, own_upd_s]) (fun j hj => by rw [own_tc, own_upd_n hj, own_upd_n hj])), rfl, _, _, _, _, _, _, _, rfl, ⟨own_upd sa lN o1, own_upd fa lN o2, _, _, ?_, ?_, ?_, ?_, hx⟩, List.Perm.refl _, fun j _ hj => ⟨own_upd_n hj, own_upd_n hj⟩⟩
    · rw [own_cl hl31]
      refine own_rm_set (by rw [own_rf, if_pos (List.mem_cons_self ..), own_upd_s]) (fun k _ hkn => ?_)
      rw [own_rf, own_rf, own_upd_n hkn]
      simp [hkn]
    · rw [own_cl hl31]
      refine own_rm_set (by rw [own_rf, if_pos (List.mem_cons_self ..), own_upd_s]) (fun k _ hkn => ?_)
      rw [own_rf, own_rf, own_upd_n hkn]
      simp [hkn]
    · rw [own_cl hl31]; exact own_cs_add
    · rw [List.map_cons, List.map_cons, ← eA, ← eB, ← eA1, ← eB1]
theorem own_unlK (l : Launch) (Z : State) (a0 : Array Value) (hw : HW Z a0) (hZ : Zs sh bt n zs) (hI : InvK (own_t3 t0 t1 t2) sh dm tk n zs D p nx vs fs cs LS B R ks) {i : Nat} (hY : (own_fl B).Perm (i :: Y)) (hT : ∀ a b, a < 3 → b < 3 → a ≠ b → own_t3 t0 t1 t2 a ≠ own_t3 t0 t1 t2 b) {ti : Addr} (hti : own_t3 t0 t1 t2 i = ti) :
    Met l Z yN23 prog_12_method_9_code 6 none { frames := 6, cells := 0, slots := 0, locals := 120 } #[.ref w, .ref ti] (WM t0 t1 t2 w sA fA cA rA sh dm bt rc tk rv D s p nx vs fs cs LS) (fun r M' => r = none ∧ ∃ p' nx' vs' fs' cs' LS' B', M' = WM t0 t1 t2 w sA fA cA rA sh dm bt rc tk rv D s p' nx' vs' fs' cs' LS' ∧ InvK (own_t3 t0 t1 t2) sh dm tk n zs D p' nx' vs' fs' cs' LS' B' (i :: R) ks ∧ (own_fl B').Perm Y ∧ (∀ j ∈ R, p' j = p j ∧ nx' j = nx j) ∧ p' i = .null ∧ nx' i = .null) := by
  subst hti
  obtain ⟨sa, fa, H, W, rfl, rfl, rfl, rfl, hC⟩ := hI
  obtain ⟨hn63, hsh, hzs⟩ := hZ
  have hif : i ∈ own_fl B := hY.symm.subset (List.mem_cons_self ..)
  obtain ⟨⟨lN, d, c⟩, hc, hic⟩ := List.mem_flatMap.mp hif
  obtain ⟨hk, hd, ⟨a, r, hcr, hHa⟩, hL, hPc⟩ := hC.2.2.2.2.1 _ hc
  have hHa : H lN d = .ref (own_t3 t0 t1 t2 a) := hHa
  have hcr : c = a :: r := hcr
  have hk : lN ∈ ks := hk
  have hd : d < zs lN := hd
  have hic : i ∈ c := hic
  have hL : Lk (own_t3 t0 t1 t2) p nx c := hL
  have hPc : ∀ i ∈ c, Pc sh dm tk (D i) lN d := hPc
  subst hcr
  have hl : lN < n := hC.2.1 lN hk
  have hz := hzs lN hl
  have hzk : ∀ l ∈ ks, zs l ≤ 256 := fun l hl => (hzs l (hC.2.1 l hl)).2
  have hd31 : d < 2147483648 := by omega
  have hl31 : lN < 2147483648 := by omega
  have hP := hPc i hic
  have e1 : (own_rm n (own_rf ks sa))[(Int32.ofNat lN).toNatClampNeg]? = some (.ref (sa lN)) := by rw [own_cl hl31, own_rm_get hl, own_rf, if_pos hk]
  have e2 : (own_rm n (own_rf ks fa))[(Int32.ofNat lN).toNatClampNeg]? = some (.ref (fa lN)) := by rw [own_cl hl31, own_rm_get hl, own_rf, if_pos hk]
  have e3 : (own_rm n (own_cn B))[(Int32.ofNat lN).toNatClampNeg]? = some (.int (Int32.ofNat (own_ct B lN))) := by rw [own_cl hl31, own_rm_get hl]; rfl
  have e4 : (own_rm ((zs lN + 63) / 64) fun w => .long (W lN w))[(Int32.ofNat (d / 64)).toNatClampNeg]? = some (.long (W lN (d / 64))) := by rw [own_cl (by omega), own_rm_get (by omega)]
  have e5 : (own_rm (zs lN) (H lN))[(Int32.ofNat d).toNatClampNeg]? = some (.ref (own_t3 t0 t1 t2 a)) := by rw [own_cl hd31, own_rm_get hd, hHa]
  have h3 : ∀ j ∈ a :: r, j < 3 := fun j hj => hC.lt3 (List.mem_append_left _ (own_fl_mem hc hj))
  have hndc : (a :: r).Nodup := (List.nodup_append.mp ((own_fl_erase hc).nodup_iff.mp (List.nodup_append.mp hC.nd).1)).1
  have hYf : ∀ c' : List Nat, (a :: r).Perm (i :: c') → (own_fl ((lN, d, c') :: B.erase (lN, d, a :: r))).Perm Y := fun c' hp => by
    have h1 : (own_fl B).Perm (a :: r ++ own_fl (B.erase (lN, d, a :: r))) := own_fl_erase hc
    have h2 := hY.symm.trans (h1.trans (hp.append_right _))
    exact ((List.perm_cons i).mp h2).symm
  have hdj : ∀ j ∈ R, ∀ y ∈ a :: r, j ≠ y := fun j hj y hy e => (List.nodup_append.mp hC.nd).2.2 y (own_fl_mem hc hy) j hj e.symm
  have ha3 : a < 3 := h3 a (List.mem_cons_self ..)
  match r, hL with
  | [], hL =>
    obtain rfl : i = a := by simpa using hic
    have hi3 := ha3
    refine Met.conv (own_pa (U := List.map (own_tc (own_t3 t0 t1 t2) D s p nx) [0, 1, 2]) (own_sp1 hi3 (e := tE (own_t3 t0 t1 t2 i) .null .null (D i) .null (p i) (s i)) (by simp [own_tc, hL.2]) (fun _ _ => rfl)) (own_spk hC.1 hk rfl (fun _ _ => rfl)) (own_spk hC.1 hk rfl (fun _ _ => rfl))) (m_unlA l Z a0 hw _ (own_nn hl31) e1 e2 e3 (own_nn hd31) (own_us6 hd31) (own_nn (by omega)) e4 hsh hP.1 hP.2 e5) ?_
    rintro _ _ ⟨rfl, rfl⟩
    have hx := hC.del (p' := (own_upd p i .null)) (nx' := (own_upd nx i .null)) hzk hc (fun j hj => by simp at hj; exact ⟨by simp [own_upd, hj], by simp [own_upd, hj]⟩)
    refine ⟨_, (own_pa (U := List.map (own_tc (own_t3 t0 t1 t2) D s (own_upd p i .null) (own_upd nx i .null)) [0, 1, 2]) (own_sp1 (f := own_tc (own_t3 t0 t1 t2) D s p nx) hi3 (by simp [own_tc, own_upd]) (fun j hj => by simp [own_tc, own_upd, hj])) (own_spk (g := own_ac sa zs (own_upd2 H lN d _)) hC.1 hk (own_acS hd31) (fun j hj => own_acN hj)) (own_spk (g := own_bc fa zs (own_upd2 W lN (d / 64) _)) hC.1 hk (own_bcS (by omega)) (fun j hj => own_bcN hj))).symm, rfl, _, _, _, _, _, _, _, rfl, ⟨sa, fa, _, _, rfl, rfl, ?_, rfl, hx⟩, ?_, fun j hj => have h := hdj j hj i (by simp); ⟨own_upd_n h, own_upd_n h⟩, own_upd_s, own_upd_s⟩
    · rw [own_cl hl31]; exact own_cs_del hc
    · exact hYf [] (List.Perm.refl _)
  | [b], hL =>
    have hb3 : b < 3 := h3 b (by simp)
    have hab : a ≠ b := fun e => by subst e; simp at hndc
    have hba := hab.symm
    rcases (show i = a ∨ i = b by simpa using hic) with rfl | rfl
    · have hi3 := ha3
      refine Met.conv (own_pa (U := List.map (own_tc (own_t3 t0 t1 t2) D s p nx) [0, 1, 2]) (own_sp2 hi3 hb3 hab (e := tE (own_t3 t0 t1 t2 i) .null .null (D i) (.ref (own_t3 t0 t1 t2 b)) (.ref (own_t3 t0 t1 t2 b)) (s i)) (by simp [own_tc, hL.1, hL.2.1]) rfl (fun _ _ _ => rfl)) (own_spk hC.1 hk rfl (fun _ _ => rfl)) (own_spk hC.1 hk rfl (fun _ _ => rfl))) (m_unlB l Z a0 hw _ (own_nn hl31) e1 e2 e3 (own_nn hd31) (own_us6 hd31) (own_nn (by omega)) e4 hsh hP.1 hP.2 e5) ?_
      rintro _ _ ⟨rfl, rfl⟩
      have hx := hC.rep (p' := (own_upd (own_upd p b (.ref (own_t3 t0 t1 t2 b))) i .null)) (nx' := (own_upd nx i .null)) hc (a := b) (r := []) (R' := i :: R) (by
        rw [List.perm_iff_count]; intro x; simp only [List.count_append, List.count_cons, List.count_nil]; omega) (by simp [Lk, own_upd, hab, hba, hL.1, hL.2.1, hL.2.2.1, hL.2.2.2]) (fun j h1 h2 => by
        simp at h1 h2
        exact ⟨by simp [own_upd, h1, h2], by simp [own_upd, h1, h2]⟩) (fun j hj => hPc j (by simp at hj; subst hj; simp))
      refine ⟨_, (own_pa (U := List.map (own_tc (own_t3 t0 t1 t2) D s (own_upd (own_upd p b (.ref (own_t3 t0 t1 t2 b))) i .null) (own_upd nx i .null)) [0, 1, 2]) (own_sp2 (f := own_tc (own_t3 t0 t1 t2) D s p nx) hi3 hb3 hab (by simp [own_tc, own_upd, hab, hba]) (by simp [own_tc, own_upd, hab, hba]) (fun j hj hj' => by simp [own_tc, own_upd, hj, hj'])) (own_spk (g := own_ac sa zs (own_upd2 H lN d _)) hC.1 hk (own_acS hd31) (fun j hj => own_acN hj)) (own_spk (f := own_bc fa zs W) (g := own_bc fa zs W) hC.1 hk rfl (fun _ _ => rfl))).symm, rfl, _, _, _, _, _, _, _, rfl, ⟨sa, fa, _, _, rfl, rfl, own_cs_rep hc, rfl, hx⟩, hYf _ ?_, fun j hj => ?_, own_upd_s, own_upd_s⟩
      · first | exact List.Perm.refl _ | (rw [List.perm_iff_count]; intro x; simp only [List.count_cons, List.count_nil]; omega)
      · have hd := hdj j hj
        simp at hd
        exact ⟨by simp [own_upd, hd], by simp [own_upd, hd]⟩
    · have hi3 := hb3
      have hia := hba
      refine Met.conv (own_pa (U := List.map (own_tc (own_t3 t0 t1 t2) D s p nx) [0, 1, 2]) (own_sp2 hi3 ha3 hba (e := tE (own_t3 t0 t1 t2 i) .null .null (D i) .null (.ref (own_t3 t0 t1 t2 a)) (s i)) (by simp [own_tc, hL.2.2.1, hL.2.2.2]) rfl (fun _ _ _ => rfl)) (own_spk hC.1 hk rfl (fun _ _ => rfl)) (own_spk hC.1 hk rfl (fun _ _ => rfl))) (m_unlC l Z a0 hw _ (own_nn hl31) e1 e2 e3 (own_nn hd31) (own_us6 hd31) (own_nn (by omega)) e4 hsh hP.1 hP.2 e5 (by simpa using hT i a hi3 ha3 hia)) ?_
      rintro _ _ ⟨rfl, rfl⟩
      have hx := hC.rep (p' := (own_upd (own_upd p a (.ref (own_t3 t0 t1 t2 a))) i .null)) (nx' := (own_upd (own_upd nx a .null) i .null)) hc (a := a) (r := []) (R' := i :: R) (by
        rw [List.perm_iff_count]; intro x; simp only [List.count_append, List.count_cons, List.count_nil]; omega) (by simp [Lk, own_upd, hab, hba, hL.1, hL.2.1, hL.2.2.1, hL.2.2.2]) (fun j h1 h2 => by
        simp at h1 h2
        exact ⟨by simp [own_upd, h1, h2], by simp [own_upd, h1, h2]⟩) (fun j hj => hPc j (by simp at hj; subst hj; simp))
      rw [own_upd2_id hHa] at hx
      refine ⟨_, (own_pa (U := List.map (own_tc (own_t3 t0 t1 t2) D s (own_upd (own_upd p a (.ref (own_t3 t0 t1 t2 a))) i .null) (own_upd (own_upd nx a .null) i .null)) [0, 1, 2]) (own_sp2 (f := own_tc (own_t3 t0 t1 t2) D s p nx) hi3 ha3 hba (by simp [own_tc, own_upd, hab, hba]) (by simp [own_tc, own_upd, hab, hba]) (fun j hj hj' => by simp [own_tc, own_upd, hj, hj'])) (own_spk (f := own_ac sa zs H) (g := own_ac sa zs H) hC.1 hk rfl (fun _ _ => rfl)) (own_spk (f := own_bc fa zs W) (g := own_bc fa zs W) hC.1 hk rfl (fun _ _ => rfl))).symm, rfl, _, _, _, _, _, _, _, rfl, ⟨sa, fa, _, _, rfl, rfl, own_cs_rep hc, rfl, hx⟩, hYf _ ?_, fun j hj => ?_, own_upd_s, own_upd_s⟩
      · first | exact List.Perm.refl _ | (rw [List.perm_iff_count]; intro x; simp only [List.count_cons, List.count_nil]; omega)
      · have hd := hdj j hj
        simp at hd
        exact ⟨by simp [own_upd, hd], by simp [own_upd, hd]⟩
  | [b, c], hL =>
    have hb3 : b < 3 := h3 b (by simp)
    have hc3 : c < 3 := h3 c (by simp)
    have hab : a ≠ b := fun e => by subst e; simp at hndc
    have hac : a ≠ c := fun e => by subst e; simp at hndc
    have hbc : b ≠ c := fun e => by subst e; simp at hndc
    have hba := hab.symm
    have hca := hac.symm
    have hcb := hbc.symm
    rcases (show i = a ∨ i = b ∨ i = c by simpa using hic) with rfl | rfl | rfl
    · have hi3 := ha3
      refine Met.conv (own_pa (U := List.map (own_tc (own_t3 t0 t1 t2) D s p nx) [0, 1, 2]) (own_sp2 hi3 hb3 hab (e := tE (own_t3 t0 t1 t2 i) .null .null (D i) (.ref (own_t3 t0 t1 t2 b)) (.ref (own_t3 t0 t1 t2 c)) (s i)) (by simp [own_tc, hL.1, hL.2.1]) rfl (fun _ _ _ => rfl)) (own_spk hC.1 hk rfl (fun _ _ => rfl)) (own_spk hC.1 hk rfl (fun _ _ => rfl))) (m_unlB l Z a0 hw _ (own_nn hl31) e1 e2 e3 (own_nn hd31) (own_us6 hd31) (own_nn (by omega)) e4 hsh hP.1 hP.2 e5) ?_
      rintro _ _ ⟨rfl, rfl⟩
      have hx := hC.rep (p' := (own_upd (own_upd p b (.ref (own_t3 t0 t1 t2 c))) i .null)) (nx' := (own_upd nx i .null)) hc (a := b) (r := [c]) (R' := i :: R) (by
        rw [List.perm_iff_count]; intro x; simp only [List.count_append, List.count_cons, List.count_nil]; omega) (by simp [Lk, own_upd, hab, hba, hac, hca, hbc, hcb, hL.1, hL.2.1, hL.2.2.1, hL.2.2.2.1, hL.2.2.2.2.1, hL.2.2.2.2.2]) (fun j h1 h2 => by
        simp at h1 h2
        exact ⟨by simp [own_upd, h1, h2], by simp [own_upd, h1, h2]⟩) (fun j hj => hPc j (by simp at hj; rcases hj with rfl | rfl <;> simp))
      refine ⟨_, (own_pa (U := List.map (own_tc (own_t3 t0 t1 t2) D s (own_upd (own_upd p b (.ref (own_t3 t0 t1 t2 c))) i .null) (own_upd nx i .null)) [0, 1, 2]) (own_sp2 (f := own_tc (own_t3 t0 t1 t2) D s p nx) hi3 hb3 hab (by simp [own_tc, own_upd, hab, hba, hac, hca, hbc, hcb]) (by simp [own_tc, own_upd, hab, hba, hac, hca, hbc, hcb]) (fun j hj hj' => by simp [own_tc, own_upd, hj, hj'])) (own_spk (g := own_ac sa zs (own_upd2 H lN d _)) hC.1 hk (own_acS hd31) (fun j hj => own_acN hj)) (own_spk (f := own_bc fa zs W) (g := own_bc fa zs W) hC.1 hk rfl (fun _ _ => rfl))).symm, rfl, _, _, _, _, _, _, _, rfl, ⟨sa, fa, _, _, rfl, rfl, own_cs_rep hc, rfl, hx⟩, hYf _ ?_, fun j hj => ?_, own_upd_s, own_upd_s⟩
      · first | exact List.Perm.refl _ | (rw [List.perm_iff_count]; intro x; simp only [List.count_cons, List.count_nil]; omega)
      · have hd := hdj j hj
        simp at hd
        exact ⟨by simp [own_upd, hd], by simp [own_upd, hd]⟩
    · have hi3 := hb3
      have hia := hba
      refine Met.conv (own_pa (U := List.map (own_tc (own_t3 t0 t1 t2) D s p nx) [0, 1, 2]) (own_sp3 (f := own_tc (own_t3 t0 t1 t2) D s p nx) (own_perm3 hi3 ha3 hc3 hba hbc hac) (e := tE (own_t3 t0 t1 t2 i) .null .null (D i) (.ref (own_t3 t0 t1 t2 c)) (.ref (own_t3 t0 t1 t2 a)) (s i)) (by simp [own_tc, hL.2.2.1, hL.2.2.2.1]) rfl rfl) (own_spk hC.1 hk rfl (fun _ _ => rfl)) (own_spk hC.1 hk rfl (fun _ _ => rfl))) (m_unlE l Z a0 hw _ (own_nn hl31) e1 e2 e3 (own_nn hd31) (own_us6 hd31) (own_nn (by omega)) e4 hsh hP.1 hP.2 e5 (by simpa using hT i a hi3 ha3 hia)) ?_
      rintro _ _ ⟨rfl, rfl⟩
      have hx := hC.rep (p' := (own_upd (own_upd p c (.ref (own_t3 t0 t1 t2 a))) i .null)) (nx' := (own_upd (own_upd nx a (.ref (own_t3 t0 t1 t2 c))) i .null)) hc (a := a) (r := [c]) (R' := i :: R) (by
        rw [List.perm_iff_count]; intro x; simp only [List.count_append, List.count_cons, List.count_nil]; omega) (by simp [Lk, own_upd, hab, hba, hac, hca, hbc, hcb, hL.1, hL.2.1, hL.2.2.1, hL.2.2.2.1, hL.2.2.2.2.1, hL.2.2.2.2.2]) (fun j h1 h2 => by
        simp at h1 h2
        exact ⟨by simp [own_upd, h1, h2], by simp [own_upd, h1, h2]⟩) (fun j hj => hPc j (by simp at hj; rcases hj with rfl | rfl <;> simp))
      rw [own_upd2_id hHa] at hx
      refine ⟨_, (own_pa (U := List.map (own_tc (own_t3 t0 t1 t2) D s (own_upd (own_upd p c (.ref (own_t3 t0 t1 t2 a))) i .null) (own_upd (own_upd nx a (.ref (own_t3 t0 t1 t2 c))) i .null)) [0, 1, 2]) (own_sp3 (f := own_tc (own_t3 t0 t1 t2) D s p nx) (own_perm3 hi3 ha3 hc3 hba hbc hac) (by simp [own_tc, own_upd, hab, hba, hac, hca, hbc, hcb]) (by simp [own_tc, own_upd, hab, hba, hac, hca, hbc, hcb]) (by simp [own_tc, own_upd, hab, hba, hac, hca, hbc, hcb])) (own_spk (f := own_ac sa zs H) (g := own_ac sa zs H) hC.1 hk rfl (fun _ _ => rfl)) (own_spk (f := own_bc fa zs W) (g := own_bc fa zs W) hC.1 hk rfl (fun _ _ => rfl))).symm, rfl, _, _, _, _, _, _, _, rfl, ⟨sa, fa, _, _, rfl, rfl, own_cs_rep hc, rfl, hx⟩, hYf _ ?_, fun j hj => ?_, own_upd_s, own_upd_s⟩
      · first | exact List.Perm.refl _ | (rw [List.perm_iff_count]; intro x; simp only [List.count_cons, List.count_nil]; omega)
      · have hd := hdj j hj
        simp at hd
        exact ⟨by simp [own_upd, hd], by simp [own_upd, hd]⟩
    · have hi3 := hc3
      have hia := hca
      refine Met.conv (own_pa (U := List.map (own_tc (own_t3 t0 t1 t2) D s p nx) [0, 1, 2]) (own_sp3 (f := own_tc (own_t3 t0 t1 t2) D s p nx) (own_perm3 hi3 ha3 hb3 hca hcb hab) (e := tE (own_t3 t0 t1 t2 i) .null .null (D i) .null (.ref (own_t3 t0 t1 t2 b)) (s i)) (by simp [own_tc, hL.2.2.2.2.1, hL.2.2.2.2.2]) rfl rfl) (own_spk hC.1 hk rfl (fun _ _ => rfl)) (own_spk hC.1 hk rfl (fun _ _ => rfl))) (m_unlD l Z a0 hw _ (own_nn hl31) e1 e2 e3 (own_nn hd31) (own_us6 hd31) (own_nn (by omega)) e4 hsh hP.1 hP.2 e5 (by simpa using hT i a hi3 ha3 hia)) ?_
      rintro _ _ ⟨rfl, rfl⟩
      have hx := hC.rep (p' := (own_upd (own_upd p a (.ref (own_t3 t0 t1 t2 b))) i .null)) (nx' := (own_upd (own_upd nx b .null) i .null)) hc (a := a) (r := [b]) (R' := i :: R) (by
        rw [List.perm_iff_count]; intro x; simp only [List.count_append, List.count_cons, List.count_nil]; omega) (by simp [Lk, own_upd, hab, hba, hac, hca, hbc, hcb, hL.1, hL.2.1, hL.2.2.1, hL.2.2.2.1, hL.2.2.2.2.1, hL.2.2.2.2.2]) (fun j h1 h2 => by
        simp at h1 h2
        exact ⟨by simp [own_upd, h1, h2], by simp [own_upd, h1, h2]⟩) (fun j hj => hPc j (by simp at hj; rcases hj with rfl | rfl <;> simp))
      rw [own_upd2_id hHa] at hx
      refine ⟨_, (own_pa (U := List.map (own_tc (own_t3 t0 t1 t2) D s (own_upd (own_upd p a (.ref (own_t3 t0 t1 t2 b))) i .null) (own_upd (own_upd nx b .null) i .null)) [0, 1, 2]) (own_sp3 (f := own_tc (own_t3 t0 t1 t2) D s p nx) (own_perm3 hi3 ha3 hb3 hca hcb hab) (by simp [own_tc, own_upd, hab, hba, hac, hca, hbc, hcb]) (by simp [own_tc, own_upd, hab, hba, hac, hca, hbc, hcb]) (by simp [own_tc, own_upd, hab, hba, hac, hca, hbc, hcb])) (own_spk (f := own_ac sa zs H) (g := own_ac sa zs H) hC.1 hk rfl (fun _ _ => rfl)) (own_spk (f := own_bc fa zs W) (g := own_bc fa zs W) hC.1 hk rfl (fun _ _ => rfl))).symm, rfl, _, _, _, _, _, _, _, rfl, ⟨sa, fa, _, _, rfl, rfl, own_cs_rep hc, rfl, hx⟩, hYf _ ?_, fun j hj => ?_, own_upd_s, own_upd_s⟩
      · first | exact List.Perm.refl _ | (rw [List.perm_iff_count]; intro x; simp only [List.count_cons, List.count_nil]; omega)
      · have hd := hdj j hj
        simp at hd
        exact ⟨by simp [own_upd, hd], by simp [own_upd, hd]⟩
  | _ :: _ :: _ :: _, hL => exact absurd hL id
end Mets
theorem d14_2 : decode prog_12_method_14_code 2 = .ok (.iload_n 1, 1) := by decide +kernel
theorem d14_3 : decode prog_12_method_14_code 3 = .ok (.aload_n 0, 1) := by decide +kernel
theorem d14_4 : decode prog_12_method_14_code 4 = .ok (.getfield 43, 3) := by decide +kernel
theorem d14_7 : decode prog_12_method_14_code 7 = .ok (.arraylength, 1) := by decide +kernel
theorem d14_8 : decode prog_12_method_14_code 8 = .ok (.if_icmp .ge 20, 3) := by decide +kernel
theorem d14_11 : decode prog_12_method_14_code 11 = .ok (.aload_n 0, 1) := by decide +kernel
theorem d14_12 : decode prog_12_method_14_code 12 = .ok (.getfield 43, 3) := by decide +kernel
theorem d14_15 : decode prog_12_method_14_code 15 = .ok (.iload_n 1, 1) := by decide +kernel
theorem d14_16 : decode prog_12_method_14_code 16 = .ok (.iaload, 1) := by decide +kernel
theorem d14_17 : decode prog_12_method_14_code 17 = .ok (.ifCond .le 5, 3) := by decide +kernel
theorem d14_22 : decode prog_12_method_14_code 22 = .ok (.iinc 1 1, 3) := by decide +kernel
theorem d14_25 : decode prog_12_method_14_code 25 = .ok (.goto (-23), 3) := by decide +kernel
theorem g_loa (l : Launch) (Z : State) (a0 : Array Value) (hw : HW Z a0) {E : E0} {Q : PQ} {t0 t1 t2 : Addr} {w sA fA cA rA : Addr} {sh : Int32} {dm : Int64} {bt rc : Int32} {tk : Int64} {rv : List Value} {D : Nat → Int64} {s : Nat → Int32} {p nx : Nat → Value} {vs fs cs : List Value} {LS : List Ent} {lv nI c : Int32} (C : Cx Z yN9 prog_12_method_14_code 2 (some .int) E) (h0 : ¬ lv < 0) (hlen : cs.length.toInt32 = nI) (hlt : lv < nI) (hcs : cs[lv.toNatClampNeg]? = some (.int c)) (hc : ¬ 0 < c) (hk : Go l Z { frames := 0, cells := 0, slots := 0, locals := 0 } E Q (tE t0 .null .null (D 0) (nx 0) (p 0) (s 0) :: tE t1 .null .null (D 1) (nx 1) (p 1) (s 1) :: tE t2 .null .null (D 2) (nx 2) (p 2) (s 2) :: wE w rA sh dm bt sA fA cA tk rc :: aS sA vs :: aF fA fs :: aI cA cs :: aT rA rv :: LS) 0 0 2 #[.val (.ref w), .val (.int (lv + (1 : Int32)))] []) :
    Go l Z { frames := 0, cells := 0, slots := 0, locals := 0 } E Q (tE t0 .null .null (D 0) (nx 0) (p 0) (s 0) :: tE t1 .null .null (D 1) (nx 1) (p 1) (s 1) :: tE t2 .null .null (D 2) (nx 2) (p 2) (s 2) :: wE w rA sh dm bt sA fA cA tk rc :: aS sA vs :: aF fA fs :: aI cA cs :: aT rA rv :: LS) 0 0 2 #[.val (.ref w), .val (.int lv)] [] := by
  refine Go.iloadN C d14_2 rfl rfl ?_
  refine Go.aloadN C d14_3 rfl rfl rfl ?_
  refine Go.gf C (wd hw 53 rfl) 3 6 rfl rfl d14_4 rfl ?_
  refine Go.arraylength C (fun _ r => r.arr 6 rfl) (z := nI) hlen d14_7 rfl ?_
  refine Go.icmpNo C d14_8 (q := 11) rfl (XT.ii_ge_f hlt) ?_
  refine Go.aloadN C d14_11 rfl rfl rfl ?_
  refine Go.gf C (wd hw 53 rfl) 3 6 rfl rfl d14_12 rfl ?_
  refine Go.iloadN C d14_15 rfl rfl ?_
  refine Go.iaload C (fun _ r => r.arr 6 rfl) h0 (v := (.int c)) hcs d14_16 (q := 17) rfl ?_
  refine Go.ifYes C d14_17 (by decide) (q := 22) rfl (XT.i0_le_t hc) ?_
  refine Go.iinc C d14_22 rfl rfl (v := (lv + (1 : Int32))) (by first | rfl | decide) (Ls' := #[.val (.ref w), .val (.int (lv + (1 : Int32)))]) rfl ?_
  refine Go.goto C d14_25 (by decide) (q := 2) rfl ?_
  exact hk
theorem d14_28 : decode prog_12_method_14_code 28 = .ok (.iconst (-1), 1) := by decide +kernel
theorem d14_29 : decode prog_12_method_14_code 29 = .ok (.ireturn, 1) := by decide +kernel
theorem g_lob (l : Launch) (Z : State) (a0 : Array Value) (hw : HW Z a0) {E : E0} {Q : PQ} {t0 t1 t2 : Addr} {w sA fA cA rA : Addr} {sh : Int32} {dm : Int64} {bt rc : Int32} {tk : Int64} {rv : List Value} {D : Nat → Int64} {s : Nat → Int32} {p nx : Nat → Value} {vs fs cs : List Value} {LS : List Ent} {lv nI : Int32} (C : Cx Z yN9 prog_12_method_14_code 2 (some .int) E) (hlen : cs.length.toInt32 = nI) (hge : ¬ lv < nI) (hq : Q (some (.int (-1 : Int32))) (tE t0 .null .null (D 0) (nx 0) (p 0) (s 0) :: tE t1 .null .null (D 1) (nx 1) (p 1) (s 1) :: tE t2 .null .null (D 2) (nx 2) (p 2) (s 2) :: wE w rA sh dm bt sA fA cA tk rc :: aS sA vs :: aF fA fs :: aI cA cs :: aT rA rv :: LS)) :
    Go l Z { frames := 0, cells := 0, slots := 0, locals := 0 } E Q (tE t0 .null .null (D 0) (nx 0) (p 0) (s 0) :: tE t1 .null .null (D 1) (nx 1) (p 1) (s 1) :: tE t2 .null .null (D 2) (nx 2) (p 2) (s 2) :: wE w rA sh dm bt sA fA cA tk rc :: aS sA vs :: aF fA fs :: aI cA cs :: aT rA rv :: LS) 0 0 2 #[.val (.ref w), .val (.int lv)] [] := by
  refine Go.iloadN C d14_2 rfl rfl ?_
  refine Go.aloadN C d14_3 rfl rfl rfl ?_
  refine Go.gf C (wd hw 53 rfl) 3 6 rfl rfl d14_4 rfl ?_
  refine Go.arraylength C (fun _ r => r.arr 6 rfl) (z := nI) hlen d14_7 rfl ?_
  refine Go.icmpYes C d14_8 (by decide) (q := 28) rfl (XT.ii_ge_t hge) ?_
  refine Go.iconst C d14_28 rfl (v := (-1 : Int32)) rfl ?_
  refine Go.retI C rfl d14_29 (by decide) (by decide) ?_
  exact hq
theorem d14_20 : decode prog_12_method_14_code 20 = .ok (.iload_n 1, 1) := by decide +kernel
theorem d14_21 : decode prog_12_method_14_code 21 = .ok (.ireturn, 1) := by decide +kernel
theorem g_loc (l : Launch) (Z : State) (a0 : Array Value) (hw : HW Z a0) {E : E0} {Q : PQ} {t0 t1 t2 : Addr} {w sA fA cA rA : Addr} {sh : Int32} {dm : Int64} {bt rc : Int32} {tk : Int64} {rv : List Value} {D : Nat → Int64} {s : Nat → Int32} {p nx : Nat → Value} {vs fs cs : List Value} {LS : List Ent} {lv nI c : Int32} (C : Cx Z yN9 prog_12_method_14_code 2 (some .int) E) (h0 : ¬ lv < 0) (hlen : cs.length.toInt32 = nI) (hlt : lv < nI) (hcs : cs[lv.toNatClampNeg]? = some (.int c)) (hc : 0 < c) (hq : Q (some (.int lv)) (tE t0 .null .null (D 0) (nx 0) (p 0) (s 0) :: tE t1 .null .null (D 1) (nx 1) (p 1) (s 1) :: tE t2 .null .null (D 2) (nx 2) (p 2) (s 2) :: wE w rA sh dm bt sA fA cA tk rc :: aS sA vs :: aF fA fs :: aI cA cs :: aT rA rv :: LS)) :
    Go l Z { frames := 0, cells := 0, slots := 0, locals := 0 } E Q (tE t0 .null .null (D 0) (nx 0) (p 0) (s 0) :: tE t1 .null .null (D 1) (nx 1) (p 1) (s 1) :: tE t2 .null .null (D 2) (nx 2) (p 2) (s 2) :: wE w rA sh dm bt sA fA cA tk rc :: aS sA vs :: aF fA fs :: aI cA cs :: aT rA rv :: LS) 0 0 2 #[.val (.ref w), .val (.int lv)] [] := by
  refine Go.iloadN C d14_2 rfl rfl ?_
  refine Go.aloadN C d14_3 rfl rfl rfl ?_
  refine Go.gf C (wd hw 53 rfl) 3 6 rfl rfl d14_4 rfl ?_
  refine Go.arraylength C (fun _ r => r.arr 6 rfl) (z := nI) hlen d14_7 rfl ?_
  refine Go.icmpNo C d14_8 (q := 11) rfl (XT.ii_ge_f hlt) ?_
  refine Go.aloadN C d14_11 rfl rfl rfl ?_
  refine Go.gf C (wd hw 53 rfl) 3 6 rfl rfl d14_12 rfl ?_
  refine Go.iloadN C d14_15 rfl rfl ?_
  refine Go.iaload C (fun _ r => r.arr 6 rfl) h0 (v := (.int c)) hcs d14_16 (q := 17) rfl ?_
  refine Go.ifNo C d14_17 (q := 20) rfl (XT.i0_le_f hc) ?_
  refine Go.iloadN C d14_20 rfl rfl ?_
  refine Go.retI C rfl d14_21 (by decide) (by decide) ?_
  exact hq
theorem d15_20 : decode prog_12_method_15_code 20 = .ok (.iload_n 3, 1) := by decide +kernel
theorem d15_21 : decode prog_12_method_15_code 21 = .ok (.aload_n 2, 1) := by decide +kernel
theorem d15_22 : decode prog_12_method_15_code 22 = .ok (.arraylength, 1) := by decide +kernel
theorem d15_23 : decode prog_12_method_15_code 23 = .ok (.if_icmp .ge 29, 3) := by decide +kernel
theorem d15_26 : decode prog_12_method_15_code 26 = .ok (.aload_n 2, 1) := by decide +kernel
theorem d15_27 : decode prog_12_method_15_code 27 = .ok (.iload_n 3, 1) := by decide +kernel
theorem d15_28 : decode prog_12_method_15_code 28 = .ok (.laload, 1) := by decide +kernel
theorem d15_29 : decode prog_12_method_15_code 29 = .ok (.lconst 0, 1) := by decide +kernel
theorem d15_30 : decode prog_12_method_15_code 30 = .ok (.lcmp, 1) := by decide +kernel
theorem d15_31 : decode prog_12_method_15_code 31 = .ok (.ifCond .eq 15, 3) := by decide +kernel
theorem d15_46 : decode prog_12_method_15_code 46 = .ok (.iinc 3 1, 3) := by decide +kernel
theorem d15_49 : decode prog_12_method_15_code 49 = .ok (.goto (-29), 3) := by decide +kernel
theorem g_ffa (l : Launch) (Z : State) (a0 : Array Value) (hw : HW Z a0) {E : E0} {Q : PQ} {w sA fA cA rA : Addr} {sh : Int32} {dm : Int64} {bt rc : Int32} {tk : Int64} {sl fl : Addr} {vs fs cs rv hs ws : List Value} {lv wi nI : Int32} {u : Int64} {F : List Ent} (C : Cx Z yN15 prog_12_method_15_code 4 (some .int) E) (w0 : ¬ wi < 0) (hlen : ws.length.toInt32 = nI) (hlt : wi < nI) (hws : ws[wi.toNatClampNeg]? = some (.long u)) (hu : u = (0 : Int64)) (hk : Go l Z { frames := 2, cells := 0, slots := 0, locals := 50 } E Q (aT sl hs :: aJ fl ws :: wE w rA sh dm bt sA fA cA tk rc :: aS sA vs :: aF fA fs :: aI cA cs :: aT rA rv :: F) 0 0 20 #[.val (.ref w), .val (.int lv), .val (.ref fl), .val (.int (wi + (1 : Int32)))] []) :
    Go l Z { frames := 2, cells := 0, slots := 0, locals := 50 } E Q (aT sl hs :: aJ fl ws :: wE w rA sh dm bt sA fA cA tk rc :: aS sA vs :: aF fA fs :: aI cA cs :: aT rA rv :: F) 0 0 20 #[.val (.ref w), .val (.int lv), .val (.ref fl), .val (.int wi)] [] := by
  refine Go.iloadN C d15_20 rfl rfl ?_
  refine Go.aloadN C d15_21 rfl rfl rfl ?_
  refine Go.arraylength C (fun _ r => r.arr 1 rfl) (z := nI) hlen d15_22 rfl ?_
  refine Go.icmpNo C d15_23 (q := 26) rfl (XT.ii_ge_f hlt) ?_
  refine Go.aloadN C d15_26 rfl rfl rfl ?_
  refine Go.iloadN C d15_27 rfl rfl ?_
  refine Go.laload C (fun _ r => r.arr 1 rfl) w0 (v := (.long u)) hws d15_28 (q := 29) rfl ?_
  refine Go.lconst C d15_29 rfl (v := (0 : Int64)) rfl ?_
  refine Go.lcmp C d15_30 rfl ?_
  refine Go.ifYes C d15_31 (by decide) (q := 46) rfl (XT.ll_eq_t hu) ?_
  refine Go.iinc C d15_46 rfl rfl (v := (wi + (1 : Int32))) (by first | rfl | decide) (Ls' := #[.val (.ref w), .val (.int lv), .val (.ref fl), .val (.int (wi + (1 : Int32)))]) rfl ?_
  refine Go.goto C d15_49 (by decide) (q := 20) rfl ?_
  exact hk
theorem d15_34 : decode prog_12_method_15_code 34 = .ok (.iload_n 3, 1) := by decide +kernel
theorem d15_35 : decode prog_12_method_15_code 35 = .ok (.bipush 6, 2) := by decide +kernel
theorem d15_37 : decode prog_12_method_15_code 37 = .ok (.ishl, 1) := by decide +kernel
theorem d15_38 : decode prog_12_method_15_code 38 = .ok (.aload_n 2, 1) := by decide +kernel
theorem d15_39 : decode prog_12_method_15_code 39 = .ok (.iload_n 3, 1) := by decide +kernel
theorem d15_40 : decode prog_12_method_15_code 40 = .ok (.laload, 1) := by decide +kernel
theorem d15_41 : decode prog_12_method_15_code 41 = .ok (.invokestatic 94, 3) := by decide +kernel
theorem d15_44 : decode prog_12_method_15_code 44 = .ok (.iadd, 1) := by decide +kernel
theorem g_ffb (l : Launch) (Z : State) (a0 : Array Value) (hw : HW Z a0) {E : E0} {Q : PQ} {w sA fA cA rA : Addr} {sh : Int32} {dm : Int64} {bt rc : Int32} {tk : Int64} {sl fl : Addr} {vs fs cs rv hs ws : List Value} {lv wi nI : Int32} {u : Int64} {F : List Ent} {dg : Int32} (C : Cx Z yN15 prog_12_method_15_code 4 (some .int) E) (w0 : ¬ wi < 0) (hlen : ws.length.toInt32 = nI) (hlt : wi < nI) (hws : ws[wi.toNatClampNeg]? = some (.long u)) (hu : ¬ u = (0 : Int64)) (hdg : wi <<< ((6 : Int32) &&& 31) + Jvm.Free.JP.Long_numberOfTrailingZeros_J.val u = dg) (hk : Go l Z { frames := 2, cells := 0, slots := 0, locals := 50 } E Q (aT sl hs :: aJ fl ws :: wE w rA sh dm bt sA fA cA tk rc :: aS sA vs :: aF fA fs :: aI cA cs :: aT rA rv :: F) 0 0 45 #[.val (.ref w), .val (.int lv), .val (.ref fl), .val (.int wi)] [(.int dg)]) :
    Go l Z { frames := 2, cells := 0, slots := 0, locals := 50 } E Q (aT sl hs :: aJ fl ws :: wE w rA sh dm bt sA fA cA tk rc :: aS sA vs :: aF fA fs :: aI cA cs :: aT rA rv :: F) 0 0 20 #[.val (.ref w), .val (.int lv), .val (.ref fl), .val (.int wi)] [] := by
  refine Go.iloadN C d15_20 rfl rfl ?_
  refine Go.aloadN C d15_21 rfl rfl rfl ?_
  refine Go.arraylength C (fun _ r => r.arr 1 rfl) (z := nI) hlen d15_22 rfl ?_
  refine Go.icmpNo C d15_23 (q := 26) rfl (XT.ii_ge_f hlt) ?_
  refine Go.aloadN C d15_26 rfl rfl rfl ?_
  refine Go.iloadN C d15_27 rfl rfl ?_
  refine Go.laload C (fun _ r => r.arr 1 rfl) w0 (v := (.long u)) hws d15_28 (q := 29) rfl ?_
  refine Go.lconst C d15_29 rfl (v := (0 : Int64)) rfl ?_
  refine Go.lcmp C d15_30 rfl ?_
  refine Go.ifNo C d15_31 (q := 34) rfl (XT.ll_eq_f hu) ?_
  refine Go.iloadN C d15_34 rfl rfl ?_
  refine Go.bipush C d15_35 rfl (v := (6 : Int32)) (by decide) ?_
  refine Go.ishl C d15_37 rfl ?_
  refine Go.aloadN C d15_38 rfl rfl rfl ?_
  refine Go.iloadN C d15_39 rfl rfl ?_
  refine Go.laload C (fun _ r => r.arr 1 rfl) w0 (v := (.long u)) hws d15_40 (q := 41) rfl ?_
  refine Go.callS C (y := yN16) (as := [(.long u)]) (rest := [(.int (wi <<< ((6 : Int32) &&& 31)))]) (wd hw 108 rfl) (wd hw 109 rfl) (wd hw 35 rfl) (wd hw 110 rfl) (m_z64 l Z a0 hw _) rfl d15_41 (q := 44) rfl (by decide) rfl (na := 1) (by decide +kernel) rfl (by decide) (W := 1) rfl (by decide) (by decide) (by decide) (k' := 0) (n' := 0) rfl rfl ?_
  rintro _ _ ⟨rfl, rfl⟩
  show Go _ _ _ _ _ _ _ _ _ _ [(.int (Jvm.Free.JP.Long_numberOfTrailingZeros_J.val u)), (.int (wi <<< ((6 : Int32) &&& 31)))]
  refine Go.iadd C d15_44 rfl ?_
  refine Go.castI (w := dg) hdg ?_
  exact hk
theorem d15_45 : decode prog_12_method_15_code 45 = .ok (.ireturn, 1) := by decide +kernel
theorem g_ffr (l : Launch) (Z : State) (a0 : Array Value) (hw : HW Z a0) {E : E0} {Q : PQ} {t0 t1 t2 : Addr} {w sA fA cA rA : Addr} {sh : Int32} {dm : Int64} {bt rc : Int32} {tk : Int64} {rv : List Value} {D : Nat → Int64} {s : Nat → Int32} {p nx : Nat → Value} {vs fs cs : List Value} {LS : List Ent} {fl : Addr} {lv wi dg : Int32} (C : Cx Z yN15 prog_12_method_15_code 4 (some .int) E) (hq : Q (some (.int dg)) (tE t0 .null .null (D 0) (nx 0) (p 0) (s 0) :: tE t1 .null .null (D 1) (nx 1) (p 1) (s 1) :: tE t2 .null .null (D 2) (nx 2) (p 2) (s 2) :: wE w rA sh dm bt sA fA cA tk rc :: aS sA vs :: aF fA fs :: aI cA cs :: aT rA rv :: LS)) :
    Go l Z { frames := 2, cells := 0, slots := 0, locals := 50 } E Q (tE t0 .null .null (D 0) (nx 0) (p 0) (s 0) :: tE t1 .null .null (D 1) (nx 1) (p 1) (s 1) :: tE t2 .null .null (D 2) (nx 2) (p 2) (s 2) :: wE w rA sh dm bt sA fA cA tk rc :: aS sA vs :: aF fA fs :: aI cA cs :: aT rA rv :: LS) 0 0 45 #[.val (.ref w), .val (.int lv), .val (.ref fl), .val (.int wi)] [(.int dg)] := by
  refine Go.retI C rfl d15_45 (by decide) (by decide) ?_
  exact hq
def own_ch (T : Nat → Addr) (nx : Nat → Value) : List Nat → Value → Prop
  | [], v => v = .null
  | a :: r, v => v = .ref (T a) ∧ own_ch T nx r (nx a)
theorem own_ch.congr {T : Nat → Addr} {nx nx' : Nat → Value} : ∀ {A : List Nat} {v : Value}, own_ch T nx A v → (∀ x ∈ A, nx' x = nx x) → own_ch T nx' A v
  | [], _, h, _ => h
  | a :: r, _, h, hx => ⟨h.1, by
      rw [hx a (List.mem_cons_self ..)]
      exact own_ch.congr h.2 fun x hr => hx x (List.mem_cons_of_mem _ hr)⟩
theorem own_ch.isRef {T : Nat → Addr} {nx : Nat → Value} {A : List Nat} {v : Value} (h : own_ch T nx A v) : v.isRef = true := by
  match A, h with
  | [], h => rw [show v = .null from h]; rfl
  | a :: r, h => rw [h.1]; rfl
theorem own_inc (k : Nat) : Int32.ofNat k + (1 : Int32) = Int32.ofNat (k + 1) := (Int32.ofNat_add k 1).symm
theorem own_w6 : ∀ w : Fin 4, Int32.ofNat w.1 <<< ((6 : Int32) &&& 31) = Int32.ofNat (64 * w.1) := by decide +kernel
theorem own_cnt0 {B : List Bk} {l : Nat} : own_ct B l = 0 ↔ ∀ b ∈ B, b.1 ≠ l := by
  unfold own_ct
  rw [List.countP_eq_zero]
  simp
section Cnt
variable {T : Nat → Addr} {sh : Int32} {dm tk : Int64} {n : Nat} {zs : Nat → Nat} {D : Nat → Int64} {p nx : Nat → Value} {vs fs cs : List Value} {LS : List Ent} {B : List Bk} {R : List Nat}
theorem own_clen (hI : Inv T sh dm tk n zs D p nx vs fs cs LS B R) : cs.length.toInt32 = Int32.ofNat n := by
  obtain ⟨ks, sa, fa, H, W, -, -, rfl, -⟩ := hI
  rw [own_rm_len]
end Cnt
def own_isLow (B : List Bk) (l : Nat) : Prop := (∃ b ∈ B, b.1 = l) ∧ ∀ b ∈ B, l ≤ b.1
theorem own_posI {T : Nat → Addr} {sh : Int32} {dm tk : Int64} {n : Nat} {zs : Nat → Nat} {D : Nat → Int64} {p nx : Nat → Value} {vs fs cs : List Value} {LS : List Ent} {B : List Bk} {R : List Nat} {lev : Nat} (h0 : ¬ own_ct B lev = 0) (hI : Inv T sh dm tk n zs D p nx vs fs cs LS B R) : 0 < Int32.ofNat (own_ct B lev) := by
  obtain ⟨ks, sa, fa, H, W, -, -, -, -, hC⟩ := hI
  have h1 : own_ct B lev ≤ B.length := List.countP_le_length
  have h2 : B.length ≤ (own_fl B).length := by
    have : ∀ B' : List Bk, (∀ b ∈ B', b.2.2 ≠ []) → B'.length ≤ (own_fl B').length := by
      intro B'
      induction B' with
      | nil => intro _; exact Nat.zero_le _
      | cons b r ih =>
        intro h
        have hb := List.length_pos_iff.mpr (h b (List.mem_cons_self ..))
        have hr := ih fun x hx => h x (List.mem_cons_of_mem _ hx)
        have : own_fl (b :: r) = b.2.2 ++ own_fl r := rfl
        rw [this, List.length_append, List.length_cons]
        omega
    refine this B fun b hb e => ?_
    obtain ⟨-, -, ⟨a, r, g, -⟩, -⟩ := hC.2.2.2.2.1 b hb
    rw [e] at g; cases g
  have h3 := hC.2.2.2.2.2.2.length_eq
  simp at h3
  rw [Int32.lt_iff_toInt_lt, own_toN (by omega), Int32.toInt_zero]
  omega
theorem own_csI {T : Nat → Addr} {sh : Int32} {dm tk : Int64} {n : Nat} {zs : Nat → Nat} {D : Nat → Int64} {p nx : Nat → Value} {vs fs cs : List Value} {LS : List Ent} {B : List Bk} {R : List Nat} {i : Nat} (hI : Inv T sh dm tk n zs D p nx vs fs cs LS B R) (hi : i < n) (h31 : i < 2147483648) : cs[(Int32.ofNat i).toNatClampNeg]? = some (.int (Int32.ofNat (own_ct B i))) := by
  obtain ⟨ks, sa, fa, H, W, -, -, rfl, -⟩ := hI
  rw [own_cl h31, own_rm_get hi]; rfl
section Low2
variable {t0 t1 t2 w sA fA cA rA : Addr} {sh : Int32} {dm : Int64} {bt rc : Int32} {tk tk' : Int64} {rv : List Value} {D : Nat → Int64} {s : Nat → Int32} {p nx : Nat → Value} {vs fs cs : List Value} {LS : List Ent} {n : Nat} {zs : Nat → Nat} {B : List Bk} {R : List Nat} {E : E0} {Q : PQ}
theorem own_lowB (l : Launch) (Z : State) (a0 : Array Value) (hw : HW Z a0) (C : Cx Z yN9 prog_12_method_14_code 2 (some .int) E) (hn : n ≤ 63) (hI : Inv (own_t3 t0 t1 t2) sh dm tk' n zs D p nx vs fs cs LS B R) (hB : ∃ b, b ∈ B) (hq : ∀ lN, own_isLow B lN → lN < n → Q (some (.int (Int32.ofNat lN))) (WM t0 t1 t2 w sA fA cA rA sh dm bt rc tk rv D s p nx vs fs cs LS)) :
    ∀ (k i : Nat), i + k = n → (∀ b ∈ B, i ≤ b.1) → Go l Z { frames := 0, cells := 0, slots := 0, locals := 0 } E Q (WM t0 t1 t2 w sA fA cA rA sh dm bt rc tk rv D s p nx vs fs cs LS) 0 0 2 #[.val (.ref w), .val (.int (Int32.ofNat i))] [] := by
  intro k
  induction k with
  | zero =>
    intro i hi hb
    exfalso
    obtain ⟨b, hB⟩ := hB
    obtain ⟨ks, sa, fa, H, W, -, -, -, -, hC⟩ := hI
    have h1 := hb b hB
    have h2 := hC.2.1 _ (hC.2.2.2.2.1 b hB).1
    omega
  | succ k ih =>
    intro i hi hb
    have hlt : Int32.ofNat i < Int32.ofNat n := by rw [Int32.lt_iff_toInt_lt, own_toN (by omega), own_toN (by omega)]; omega
    by_cases h0 : own_ct B i = 0
    · refine g_loa l Z a0 hw C (own_nn (by omega)) (own_clen hI) hlt (own_csI hI (by omega) (by omega)) (by rw [h0]; decide) ?_
      rw [own_inc]
      exact ih (i + 1) (by omega) fun b hB => Nat.lt_of_le_of_ne (hb b hB) (fun e => own_cnt0.mp h0 b hB e.symm)
    · refine g_loc l Z a0 hw C (own_nn (by omega)) (own_clen hI) hlt (own_csI hI (by omega) (by omega)) (own_posI h0 hI) ?_
      refine hq i ⟨?_, hb⟩ (by omega)
      exact Classical.byContradiction fun q => h0 (own_cnt0.mpr fun b hB e => q ⟨b, hB, e⟩)
theorem own_ffs (l : Launch) (Z : State) (a0 : Array Value) (hw : HW Z a0) (hZ : Zs sh bt n zs) (C : Cx Z yN15 prog_12_method_15_code 4 (some .int) E) (hI : Inv (own_t3 t0 t1 t2) sh dm tk' n zs D p nx vs fs cs LS B R) {lev : Nat} {f3 : Addr} (hlev : lev < n) (hf : fs[lev]? = some (.ref f3)) (hB : ∃ b ∈ B, b.1 = lev) (hq : ∀ d c, (lev, d, c) ∈ B → (∀ b ∈ B, b.1 = lev → d ≤ b.2.1) → Q (some (.int (Int32.ofNat d))) (WM t0 t1 t2 w sA fA cA rA sh dm bt rc tk rv D s p nx vs fs cs LS)) :
    ∀ (k wd : Nat), wd + k = 4 → (∀ b ∈ B, b.1 = lev → wd ≤ b.2.1 / 64) → Go l Z { frames := 2, cells := 0, slots := 0, locals := 50 } E Q (WM t0 t1 t2 w sA fA cA rA sh dm bt rc tk rv D s p nx vs fs cs LS) 0 0 20 #[.val (.ref w), .val (.int (Int32.ofNat lev)), .val (.ref f3), .val (.int (Int32.ofNat wd))] [] := by
  obtain ⟨hn63, hsh, hzs⟩ := hZ
  have hz := hzs lev hlev
  obtain ⟨ks, sa, fa, H, W, rfl, rfl, rfl, rfl, hC⟩ := hI
  obtain ⟨b0, hb0, e0⟩ := hB
  have hk : lev ∈ ks := e0 ▸ (hC.2.2.2.2.1 b0 hb0).1
  rw [own_rm_get hlev, own_rf, if_pos hk] at hf
  obtain rfl : fa lev = f3 := by
    injection hf with h
    injection h
  have hd0 : b0.2.1 < zs lev := e0 ▸ (hC.2.2.2.2.1 b0 hb0).2.1
  intro k
  induction k with
  | zero =>
    intro wd hk4 hlow
    exfalso
    have := hlow b0 hb0 e0
    omega
  | succ k ih =>
    intro wd hk4 hlow
    have h1 := hlow b0 hb0 e0
    have hwd : wd < (zs lev + 63) / 64 := by omega
    have e4 : (own_rm ((zs lev + 63) / 64) fun w => .long (W lev w))[(Int32.ofNat wd).toNatClampNeg]? = some (.long (W lev wd)) := by rw [own_cl (by omega), own_rm_get hwd]
    have hlen : (own_rm ((zs lev + 63) / 64) fun w => .long (W lev w)).length.toInt32 = Int32.ofNat ((zs lev + 63) / 64) := by rw [own_rm_len]
    have hlt : Int32.ofNat wd < Int32.ofNat ((zs lev + 63) / 64) := by rw [Int32.lt_iff_toInt_lt, own_toN (by omega), own_toN (by omega)]; omega
    have pp := own_pa (U := List.map (own_tc (own_t3 t0 t1 t2) D s p nx) [0, 1, 2]) (Xs := []) (X := List.map (own_tc (own_t3 t0 t1 t2) D s p nx) [0, 1, 2]) (w := wE w rA sh dm bt sA fA cA tk rc) (a := aS sA (own_rm n (own_rf ks sa))) (b := aF fA (own_rm n (own_rf ks fa))) (c := aI cA (own_rm n (own_cn B))) (r := aT rA rv) (List.Perm.refl _) (own_spk (f := own_ac sa zs H) (g := own_ac sa zs H) hC.1 hk rfl (fun _ _ => rfl)) (own_spk (f := own_bc fa zs W) (g := own_bc fa zs W) hC.1 hk rfl (fun _ _ => rfl))
    refine Go.perm pp ?_
    by_cases hu : W lev wd = 0
    · refine g_ffa l Z a0 hw C (own_nn (by omega)) hlen hlt e4 hu ?_
      refine Go.perm pp.symm ?_
      rw [own_inc]
      refine ih (wd + 1) (by omega) fun b hb e => ?_
      refine Nat.lt_of_le_of_ne (hlow b hb e) (fun q => ?_)
      obtain ⟨-, -, ⟨a, r, -, ha⟩, -⟩ := hC.2.2.2.2.1 b hb
      have := (hC.2.2.1 lev hk wd (b.2.1 % 64) (Nat.mod_lt _ (by decide))).mpr (by
        rw [show 64 * wd + b.2.1 % 64 = b.2.1 by omega, ← e, ha]; simp)
      rw [hu] at this
      simp at this
    · have hu' : (W lev wd).toBitVec.toNat ≠ 0 := fun q => hu (Int64.toBitVec_inj.mp (BitVec.eq_of_toNat_eq (q.trans rfl)))
      obtain ⟨t, ht⟩ := Jvm.Free.JM.low_ex _ hu'
      have ht64 : t < 64 := ht.lt (W lev wd).toBitVec.isLt
      have hnn := (hC.2.2.1 lev hk wd t ht64).mp ht.at
      obtain ⟨c, hc⟩ := hC.2.2.2.1 lev hk _ hnn
      have hdg : Int32.ofNat wd <<< ((6 : Int32) &&& 31) + Jvm.Free.JP.Long_numberOfTrailingZeros_J.val (W lev wd) = Int32.ofNat (64 * wd + t) := by rw [own_w6 ⟨wd, by omega⟩, Jvm.Free.JM.ntz64 ht, ← Int32.ofNat_add]
      refine g_ffb l Z a0 hw C (own_nn (by omega)) hlen hlt e4 hu hdg ?_
      refine Go.perm pp.symm ?_
      refine g_ffr l Z a0 hw C ?_
      refine hq _ c hc fun b hb e => ?_
      have h2 := hlow b hb e
      refine Nat.le_of_not_lt fun q => ?_
      obtain ⟨-, -, ⟨a, r, -, ha⟩, -⟩ := hC.2.2.2.2.1 b hb
      have h3 : b.2.1 / 64 = wd := by omega
      have := (hC.2.2.1 lev hk wd (b.2.1 % 64) (Nat.mod_lt _ (by decide))).mpr (by
        rw [show 64 * wd + b.2.1 % 64 = b.2.1 by omega, ← e, ha]; simp)
      have h4 := ht.below (j := b.2.1 % 64) (by omega)
      have h5 : (W lev wd).toBitVec.getLsbD (b.2.1 % 64) = false := h4
      rw [h5] at this
      cases this
end Low2
theorem d14_0 : decode prog_12_method_14_code 0 = .ok (.iconst 0, 1) := by decide +kernel
theorem d14_1 : decode prog_12_method_14_code 1 = .ok (.istore_n 1, 1) := by decide +kernel
theorem pn_14 : plainFor yN9 = true := by first | (apply plainFor_of_name; simp [plainName, overriddenIn]; done) | decide +kernel
theorem m_lowB (l : Launch) (Z : State) (a0 : Array Value) (hw : HW Z a0) {t0 t1 t2 : Addr} {w sA fA cA rA : Addr} {sh : Int32} {dm : Int64} {bt rc : Int32} {tk : Int64} {rv : List Value} {D : Nat → Int64} {s : Nat → Int32} {p nx : Nat → Value} {vs fs cs : List Value} {LS : List Ent} {n : Nat} {zs : Nat → Nat} {B : List Bk} {R : List Nat} {tk' : Int64} (hn : n ≤ 63) (hI : Inv (own_t3 t0 t1 t2) sh dm tk' n zs D p nx vs fs cs LS B R) (hB : ∃ b, b ∈ B) :
    Met l Z yN9 prog_12_method_14_code 2 (some .int) { frames := 0, cells := 0, slots := 0, locals := 0 } #[(.ref w)] (tE t0 .null .null (D 0) (nx 0) (p 0) (s 0) :: tE t1 .null .null (D 1) (nx 1) (p 1) (s 1) :: tE t2 .null .null (D 2) (nx 2) (p 2) (s 2) :: wE w rA sh dm bt sA fA cA tk rc :: aS sA vs :: aF fA fs :: aI cA cs :: aT rA rv :: LS) (fun r M' => (∃ lN : Nat, r = some (.int (Int32.ofNat lN)) ∧ own_isLow B lN ∧ lN < n) ∧ M' = (tE t0 .null .null (D 0) (nx 0) (p 0) (s 0) :: tE t1 .null .null (D 1) (nx 1) (p 1) (s 1) :: tE t2 .null .null (D 2) (nx 2) (p 2) (s 2) :: wE w rA sh dm bt sA fA cA tk rc :: aS sA vs :: aF fA fs :: aI cA cs :: aT rA rv :: LS)) := by
  refine Met.of_go pn_14 (Ls := #[.val (.ref w), .unset]) (fun m => rfl) ?_
  intro E C
  refine Go.iconst C d14_0 rfl (v := (0 : Int32)) rfl ?_
  refine Go.istoreN C d14_1 rfl (Ls' := #[.val (.ref w), .val (.int (0 : Int32))]) rfl ?_
  exact own_lowB l Z a0 hw C hn hI hB (fun lN h1 h2 => ⟨⟨lN, rfl, h1, h2⟩, rfl⟩) n 0 (by omega) (fun _ _ => Nat.zero_le _)
theorem d15_0 : decode prog_12_method_15_code 0 = .ok (.aload_n 0, 1) := by decide +kernel
theorem d15_1 : decode prog_12_method_15_code 1 = .ok (.getfield 39, 3) := by decide +kernel
theorem d15_4 : decode prog_12_method_15_code 4 = .ok (.iload_n 1, 1) := by decide +kernel
theorem d15_5 : decode prog_12_method_15_code 5 = .ok (.aaload, 1) := by decide +kernel
theorem d15_6 : decode prog_12_method_15_code 6 = .ok (.astore_n 2, 1) := by decide +kernel
theorem d15_7 : decode prog_12_method_15_code 7 = .ok (.aload_n 0, 1) := by decide +kernel
theorem d15_8 : decode prog_12_method_15_code 8 = .ok (.aload_n 0, 1) := by decide +kernel
theorem d15_9 : decode prog_12_method_15_code 9 = .ok (.getfield 47, 3) := by decide +kernel
theorem d15_12 : decode prog_12_method_15_code 12 = .ok (.iload_n 1, 1) := by decide +kernel
theorem d15_13 : decode prog_12_method_15_code 13 = .ok (.invokevirtual 110, 3) := by decide +kernel
theorem d15_16 : decode prog_12_method_15_code 16 = .ok (.bipush 6, 2) := by decide +kernel
theorem d15_18 : decode prog_12_method_15_code 18 = .ok (.iushr, 1) := by decide +kernel
theorem d15_19 : decode prog_12_method_15_code 19 = .ok (.istore_n 3, 1) := by decide +kernel
theorem pn_15 : plainFor yN15 = true := by first | (apply plainFor_of_name; simp [plainName, overriddenIn]; done) | decide +kernel
theorem m_ffs (l : Launch) (Z : State) (a0 : Array Value) (hw : HW Z a0) {t0 t1 t2 : Addr} {w sA fA cA rA : Addr} {sh : Int32} {dm : Int64} {bt rc : Int32} {tk : Int64} {rv : List Value} {D : Nat → Int64} {s : Nat → Int32} {p nx : Nat → Value} {vs fs cs : List Value} {LS : List Ent} {n : Nat} {zs : Nat → Nat} {B : List Bk} {R : List Nat} {tk' : Int64} {lev w0n : Nat} {dg : Int32} {f3 : Addr} (hZ : Zs sh bt n zs) (hI : Inv (own_t3 t0 t1 t2) sh dm tk' n zs D p nx vs fs cs LS B R) (hlev : lev < n) (hfs : fs[(Int32.ofNat lev).toNatClampNeg]? = some (.ref f3)) (hdg : own_dg sh dm tk (Int32.ofNat lev) = dg) (hwi : XT.ushr dg (6 : Int32) = Int32.ofNat w0n) (hw4 : w0n ≤ 4) (hB : ∃ b ∈ B, b.1 = lev) (hlow : ∀ b ∈ B, b.1 = lev → w0n ≤ b.2.1 / 64) :
    Met l Z yN15 prog_12_method_15_code 4 (some .int) { frames := 2, cells := 0, slots := 0, locals := 50 } #[(.ref w), (.int (Int32.ofNat lev))] (tE t0 .null .null (D 0) (nx 0) (p 0) (s 0) :: tE t1 .null .null (D 1) (nx 1) (p 1) (s 1) :: tE t2 .null .null (D 2) (nx 2) (p 2) (s 2) :: wE w rA sh dm bt sA fA cA tk rc :: aS sA vs :: aF fA fs :: aI cA cs :: aT rA rv :: LS) (fun r M' => (∃ d c, r = some (.int (Int32.ofNat d)) ∧ (lev, d, c) ∈ B ∧ ∀ b ∈ B, b.1 = lev → d ≤ b.2.1) ∧ M' = (tE t0 .null .null (D 0) (nx 0) (p 0) (s 0) :: tE t1 .null .null (D 1) (nx 1) (p 1) (s 1) :: tE t2 .null .null (D 2) (nx 2) (p 2) (s 2) :: wE w rA sh dm bt sA fA cA tk rc :: aS sA vs :: aF fA fs :: aI cA cs :: aT rA rv :: LS)) := by
  refine Met.of_go pn_15 (Ls := #[.val (.ref w), .val (.int (Int32.ofNat lev)), .unset, .unset]) (fun m => rfl) ?_
  intro E C
  refine Go.aloadN C d15_0 rfl rfl rfl ?_
  refine Go.gf C (wd hw 50 rfl) 3 5 rfl rfl d15_1 rfl ?_
  refine Go.iloadN C d15_4 rfl rfl ?_
  refine Go.aaload C (fun _ r => r.arr 5 rfl) rfl (own_nn (by have := hZ.1; omega)) (v := (.ref f3)) hfs d15_5 (q := 6) rfl ?_
  refine Go.astoreN C d15_6 rfl rfl (Ls' := #[.val (.ref w), .val (.int (Int32.ofNat lev)), .val (.ref f3), .unset]) rfl ?_
  refine Go.aloadN C d15_7 rfl rfl rfl ?_
  refine Go.aloadN C d15_8 rfl rfl rfl ?_
  refine Go.gf C (wd hw 76 rfl) 3 7 rfl rfl d15_9 rfl ?_
  refine Go.iloadN C d15_12 rfl rfl ?_
  refine Go.pick (M' := (wE w rA sh dm bt sA fA cA tk rc :: tE t0 .null .null (D 0) (nx 0) (p 0) (s 0) :: tE t1 .null .null (D 1) (nx 1) (p 1) (s 1) :: tE t2 .null .null (D 2) (nx 2) (p 2) (s 2) :: aS sA vs :: aF fA fs :: aI cA cs :: aT rA rv :: LS)) 8 [3, 0, 1, 2, 4, 5, 6, 7] (by decide) (by decide) rfl ?_
  refine Go.callP C (y := yN13) (a := w) (as := [(.long tk), (.int (Int32.ofNat lev))]) (rest := []) (wd hw 89 rfl) (wd hw 90 rfl) (sel_priv (y := yN13) (wd hw 19 rfl) (wd hw 90 rfl) (wd hw 91 rfl) (by decide)) (wd hw 91 rfl) (wd hw 92 rfl) (wd hw 20 rfl) (fun _ r => r.exa 0 rfl) (m_dig l Z a0 hw _ hdg) rfl d15_13 (q := 16) rfl (by decide) rfl (na := 2) (by decide +kernel) rfl (by decide) (W := 0) rfl (by decide) (by decide) (by decide) (k' := 0) (n' := 0) rfl rfl ?_
  rintro _ _ ⟨rfl, rfl⟩
  show Go _ _ _ _ _ _ _ _ _ _ [(.int dg)]
  refine Go.bipush C d15_16 rfl (v := (6 : Int32)) (by decide) ?_
  refine Go.iushr C d15_18 rfl ?_
  refine Go.castI (w := (Int32.ofNat w0n)) hwi ?_
  refine Go.istoreN C d15_19 rfl (Ls' := #[.val (.ref w), .val (.int (Int32.ofNat lev)), .val (.ref f3), .val (.int (Int32.ofNat w0n))]) rfl ?_
  refine Go.pick (M' := (tE t0 .null .null (D 0) (nx 0) (p 0) (s 0) :: tE t1 .null .null (D 1) (nx 1) (p 1) (s 1) :: tE t2 .null .null (D 2) (nx 2) (p 2) (s 2) :: wE w rA sh dm bt sA fA cA tk rc :: aS sA vs :: aF fA fs :: aI cA cs :: aT rA rv :: LS)) 8 [1, 2, 3, 0, 4, 5, 6, 7] (by decide) (by decide) rfl ?_
  exact own_ffs l Z a0 hw hZ C hI hlev (by rw [own_cl (by have := hZ.1; omega)] at hfs; exact hfs) hB (fun d c h1 h2 => ⟨⟨d, c, rfl, h1, h2⟩, rfl⟩) (4 - w0n) w0n (by omega) hlow
theorem d16_0 : decode prog_12_method_16_code 0 = .ok (.iload_n 1, 1) := by decide +kernel
theorem d16_1 : decode prog_12_method_16_code 1 = .ok (.iconst 1, 1) := by decide +kernel
theorem d16_2 : decode prog_12_method_16_code 2 = .ok (.iadd, 1) := by decide +kernel
theorem d16_3 : decode prog_12_method_16_code 3 = .ok (.aload_n 0, 1) := by decide +kernel
theorem d16_4 : decode prog_12_method_16_code 4 = .ok (.getfield 17, 3) := by decide +kernel
theorem d16_7 : decode prog_12_method_16_code 7 = .ok (.imul, 1) := by decide +kernel
theorem d16_8 : decode prog_12_method_16_code 8 = .ok (.istore_n 3, 1) := by decide +kernel
theorem d16_9 : decode prog_12_method_16_code 9 = .ok (.iload_n 3, 1) := by decide +kernel
theorem d16_10 : decode prog_12_method_16_code 10 = .ok (.bipush 64, 2) := by decide +kernel
theorem d16_12 : decode prog_12_method_16_code 12 = .ok (.if_icmp .lt 7, 3) := by decide +kernel
theorem d16_19 : decode prog_12_method_16_code 19 = .ok (.aload_n 0, 1) := by decide +kernel
theorem d16_20 : decode prog_12_method_16_code 20 = .ok (.getfield 47, 3) := by decide +kernel
theorem d16_23 : decode prog_12_method_16_code 23 = .ok (.iload_n 3, 1) := by decide +kernel
theorem d16_24 : decode prog_12_method_16_code 24 = .ok (.lushr, 1) := by decide +kernel
theorem d16_25 : decode prog_12_method_16_code 25 = .ok (.iload_n 3, 1) := by decide +kernel
theorem d16_26 : decode prog_12_method_16_code 26 = .ok (.lshl, 1) := by decide +kernel
theorem d16_27 : decode prog_12_method_16_code 27 = .ok (.lstore 4, 2) := by decide +kernel
theorem d16_29 : decode prog_12_method_16_code 29 = .ok (.lload 4, 2) := by decide +kernel
theorem d16_31 : decode prog_12_method_16_code 31 = .ok (.iload_n 2, 1) := by decide +kernel
theorem d16_32 : decode prog_12_method_16_code 32 = .ok (.i2l, 1) := by decide +kernel
theorem d16_33 : decode prog_12_method_16_code 33 = .ok (.iload_n 1, 1) := by decide +kernel
theorem d16_34 : decode prog_12_method_16_code 34 = .ok (.aload_n 0, 1) := by decide +kernel
theorem d16_35 : decode prog_12_method_16_code 35 = .ok (.getfield 17, 3) := by decide +kernel
theorem d16_38 : decode prog_12_method_16_code 38 = .ok (.imul, 1) := by decide +kernel
theorem d16_39 : decode prog_12_method_16_code 39 = .ok (.lshl, 1) := by decide +kernel
theorem d16_40 : decode prog_12_method_16_code 40 = .ok (.lor, 1) := by decide +kernel
theorem d16_41 : decode prog_12_method_16_code 41 = .ok (.lreturn, 1) := by decide +kernel
theorem d16_15 : decode prog_12_method_16_code 15 = .ok (.lconst 0, 1) := by decide +kernel
theorem d16_16 : decode prog_12_method_16_code 16 = .ok (.goto 11, 3) := by decide +kernel
theorem pn_16 : plainFor yN18 = true := by first | (apply plainFor_of_name; simp [plainName, overriddenIn]; done) | decide +kernel
theorem m_stk (l : Launch) (Z : State) (a0 : Array Value) (hw : HW Z a0) (F : List Ent) {w sA fA cA rA : Addr} {sh : Int32} {dm : Int64} {bt rc : Int32} {tk : Int64} {lv dg : Int32}  :
    Met l Z yN18 prog_12_method_16_code 6 (some .long) { frames := 0, cells := 0, slots := 0, locals := 0 } #[(.ref w), (.int lv), (.int dg)] (wE w rA sh dm bt sA fA cA tk rc :: F) (fun r M' => r = some (.long (own_stk sh tk lv dg)) ∧ M' = (wE w rA sh dm bt sA fA cA tk rc :: F)) := by
  refine Met.of_go pn_16 (Ls := #[.val (.ref w), .val (.int lv), .val (.int dg), .unset, .unset, .unset]) (fun m => rfl) ?_
  intro E C
  refine Go.iloadN C d16_0 rfl rfl ?_
  refine Go.iconst C d16_1 rfl (v := (1 : Int32)) rfl ?_
  refine Go.iadd C d16_2 rfl ?_
  refine Go.aloadN C d16_3 rfl rfl rfl ?_
  refine Go.gf C (wd hw 29 rfl) 0 1 rfl rfl d16_4 rfl ?_
  refine Go.imul C d16_7 rfl ?_
  refine Go.istoreN C d16_8 rfl (Ls' := #[.val (.ref w), .val (.int lv), .val (.int dg), .val (.int ((lv + (1 : Int32)) * sh)), .unset, .unset]) rfl ?_
  refine Go.iloadN C d16_9 rfl rfl ?_
  refine Go.bipush C d16_10 rfl (v := (64 : Int32)) (by decide) ?_
  refine Go.icmp C d16_12 (by decide) (q := 19) rfl (q' := 15) rfl (fun (h12_1 : ((lv + (1 : Int32)) * sh) < (64 : Int32)) => ?_) (fun (h12_1 : ¬ ((lv + (1 : Int32)) * sh) < (64 : Int32)) => ?_)
  · refine Go.aloadN C d16_19 rfl rfl rfl ?_
    refine Go.gf C (wd hw 76 rfl) 0 7 rfl rfl d16_20 rfl ?_
    refine Go.iloadN C d16_23 rfl rfl ?_
    refine Go.lushr C d16_24 rfl ?_
    refine Go.iloadN C d16_25 rfl rfl ?_
    refine Go.lshl C d16_26 rfl ?_
    refine Go.lstore C d16_27 rfl (Ls' := #[.val (.ref w), .val (.int lv), .val (.int dg), .val (.int ((lv + (1 : Int32)) * sh)), .val (.long ((XT.ushrL tk ((lv + (1 : Int32)) * sh)) <<< (((lv + (1 : Int32)) * sh).toInt64 &&& 63))), .second]) rfl ?_
    refine Go.lload C d16_29 rfl rfl ?_
    refine Go.iloadN C d16_31 rfl rfl ?_
    refine Go.i2l C d16_32 rfl ?_
    refine Go.iloadN C d16_33 rfl rfl ?_
    refine Go.aloadN C d16_34 rfl rfl rfl ?_
    refine Go.gf C (wd hw 29 rfl) 0 1 rfl rfl d16_35 rfl ?_
    refine Go.imul C d16_38 rfl ?_
    refine Go.lshl C d16_39 rfl ?_
    refine Go.lor C d16_40 rfl ?_
    refine Go.retL C rfl d16_41 (by decide) (by decide) ?_
    exact ⟨congrArg (fun z => some (Value.long z)) (congrArg (fun z : Int64 => z ||| (dg.toInt64 <<< ((lv * sh).toInt64 &&& 63))) (if_pos h12_1).symm), rfl⟩
  · refine Go.lconst C d16_15 rfl (v := (0 : Int64)) rfl ?_
    refine Go.goto C d16_16 (by decide) (q := 27) rfl ?_
    refine Go.lstore C d16_27 rfl (Ls' := #[.val (.ref w), .val (.int lv), .val (.int dg), .val (.int ((lv + (1 : Int32)) * sh)), .val (.long (0 : Int64)), .second]) rfl ?_
    refine Go.lload C d16_29 rfl rfl ?_
    refine Go.iloadN C d16_31 rfl rfl ?_
    refine Go.i2l C d16_32 rfl ?_
    refine Go.iloadN C d16_33 rfl rfl ?_
    refine Go.aloadN C d16_34 rfl rfl rfl ?_
    refine Go.gf C (wd hw 29 rfl) 0 1 rfl rfl d16_35 rfl ?_
    refine Go.imul C d16_38 rfl ?_
    refine Go.lshl C d16_39 rfl ?_
    refine Go.lor C d16_40 rfl ?_
    refine Go.retL C rfl d16_41 (by decide) (by decide) ?_
    exact ⟨congrArg (fun z => some (Value.long z)) (congrArg (fun z : Int64 => z ||| (dg.toInt64 <<< ((lv * sh).toInt64 &&& 63))) (if_neg h12_1).symm), rfl⟩
theorem d17_0 : decode prog_4_method_3_code 0 = .ok (.aload_n 0, 1) := by decide +kernel
theorem d17_1 : decode prog_4_method_3_code 1 = .ok (.getfield 23, 3) := by decide +kernel
theorem d17_4 : decode prog_4_method_3_code 4 = .ok (.iconst 1, 1) := by decide +kernel
theorem d17_5 : decode prog_4_method_3_code 5 = .ok (.if_icmp .ne 7, 3) := by decide +kernel
theorem d17_12 : decode prog_4_method_3_code 12 = .ok (.iconst 0, 1) := by decide +kernel
theorem d17_13 : decode prog_4_method_3_code 13 = .ok (.ireturn, 1) := by decide +kernel
theorem pn_17 : plainFor yN27 = true := by first | (apply plainFor_of_name; simp [plainName, overriddenIn]; done) | decide +kernel
theorem m_isC0 (l : Launch) (Z : State) (a0 : Array Value) (hw : HW Z a0) (F : List Ent) {t : Addr} {D : Int64} {nt pt : Value} {st : Int32} (h : ¬ st = (1 : Int32)) :
    Met l Z yN27 prog_4_method_3_code 1 (some .boolean) { frames := 0, cells := 0, slots := 0, locals := 0 } #[(.ref t)] (tE t .null .null D nt pt st :: F) (fun r M' => r = some (.int (0 : Int32)) ∧ M' = (tE t .null .null D nt pt st :: F)) := by
  refine Met.of_go pn_17 (Ls := #[.val (.ref t)]) (fun m => rfl) ?_
  intro E C
  refine Go.aloadN C d17_0 rfl rfl rfl ?_
  refine Go.gf C (wd hw 158 rfl) 0 5 rfl rfl d17_1 rfl ?_
  refine Go.iconst C d17_4 rfl (v := (1 : Int32)) rfl ?_
  refine Go.icmpYes C d17_5 (by decide) (q := 12) rfl (XT.ii_ne_t h) ?_
  refine Go.iconst C d17_12 rfl (v := (0 : Int32)) rfl ?_
  refine Go.retZ C rfl (by decide) d17_13 (by decide) (by decide) ?_
  exact ⟨rfl, rfl⟩
theorem d17_8 : decode prog_4_method_3_code 8 = .ok (.iconst 1, 1) := by decide +kernel
theorem d17_9 : decode prog_4_method_3_code 9 = .ok (.goto 4, 3) := by decide +kernel
theorem m_isC1 (l : Launch) (Z : State) (a0 : Array Value) (hw : HW Z a0) (F : List Ent) {t : Addr} {D : Int64} {nt pt : Value} {st : Int32} (h : st = (1 : Int32)) :
    Met l Z yN27 prog_4_method_3_code 1 (some .boolean) { frames := 0, cells := 0, slots := 0, locals := 0 } #[(.ref t)] (tE t .null .null D nt pt st :: F) (fun r M' => r = some (.int (1 : Int32)) ∧ M' = (tE t .null .null D nt pt st :: F)) := by
  refine Met.of_go pn_17 (Ls := #[.val (.ref t)]) (fun m => rfl) ?_
  intro E C
  refine Go.aloadN C d17_0 rfl rfl rfl ?_
  refine Go.gf C (wd hw 158 rfl) 0 5 rfl rfl d17_1 rfl ?_
  refine Go.iconst C d17_4 rfl (v := (1 : Int32)) rfl ?_
  refine Go.icmpNo C d17_5 (q := 8) rfl (XT.ii_ne_f h) ?_
  refine Go.iconst C d17_8 rfl (v := (1 : Int32)) rfl ?_
  refine Go.goto C d17_9 (by decide) (q := 13) rfl ?_
  refine Go.retZ C rfl (by decide) d17_13 (by decide) (by decide) ?_
  exact ⟨rfl, rfl⟩
theorem d18_0 : decode prog_12_method_7_code 0 = .ok (.aload_n 0, 1) := by decide +kernel
theorem d18_1 : decode prog_12_method_7_code 1 = .ok (.getfield 33, 3) := by decide +kernel
theorem d18_4 : decode prog_12_method_7_code 4 = .ok (.iload_n 1, 1) := by decide +kernel
theorem d18_5 : decode prog_12_method_7_code 5 = .ok (.aaload, 1) := by decide +kernel
theorem d18_6 : decode prog_12_method_7_code 6 = .ok (.iload_n 2, 1) := by decide +kernel
theorem d18_7 : decode prog_12_method_7_code 7 = .ok (.aaload, 1) := by decide +kernel
theorem d18_8 : decode prog_12_method_7_code 8 = .ok (.astore_n 3, 1) := by decide +kernel
theorem d18_9 : decode prog_12_method_7_code 9 = .ok (.aload_n 0, 1) := by decide +kernel
theorem d18_10 : decode prog_12_method_7_code 10 = .ok (.getfield 33, 3) := by decide +kernel
theorem d18_13 : decode prog_12_method_7_code 13 = .ok (.iload_n 1, 1) := by decide +kernel
theorem d18_14 : decode prog_12_method_7_code 14 = .ok (.aaload, 1) := by decide +kernel
theorem d18_15 : decode prog_12_method_7_code 15 = .ok (.iload_n 2, 1) := by decide +kernel
theorem d18_16 : decode prog_12_method_7_code 16 = .ok (.aconst_null, 1) := by decide +kernel
theorem d18_17 : decode prog_12_method_7_code 17 = .ok (.aastore, 1) := by decide +kernel
theorem d18_18 : decode prog_12_method_7_code 18 = .ok (.aload_n 0, 1) := by decide +kernel
theorem d18_19 : decode prog_12_method_7_code 19 = .ok (.iload_n 1, 1) := by decide +kernel
theorem d18_20 : decode prog_12_method_7_code 20 = .ok (.iload_n 2, 1) := by decide +kernel
theorem d18_21 : decode prog_12_method_7_code 21 = .ok (.invokevirtual 101, 3) := by decide +kernel
theorem g_mvP (l : Launch) (Z : State) (a0 : Array Value) (hw : HW Z a0) {E : E0} {Q : PQ} {w sA fA cA rA : Addr} {sh : Int32} {dm : Int64} {bt rc : Int32} {tk : Int64} {sl fl : Addr} {vs fs cs rv hs ws : List Value} {lv dg wi c : Int32} {u : Int64} {F : List Ent} {a : Addr} {K N : Nat} (C : Cx Z yN26 prog_12_method_7_code 5 none E) (h0 : ¬ lv < 0) (hvs : vs[lv.toNatClampNeg]? = some (.ref sl)) (hfs : fs[lv.toNatClampNeg]? = some (.ref fl)) (hcs : cs[lv.toNatClampNeg]? = some (.int c)) (g0 : ¬ dg < 0) (hwi : XT.ushr dg (6 : Int32) = wi) (w0 : ¬ wi < 0) (hws : ws[wi.toNatClampNeg]? = some (.long u)) (hhs : hs[dg.toNatClampNeg]? = some (.ref a)) (hk : Go l Z { frames := 7, cells := K, slots := N, locals := 150 } E Q (aT sl (hs.set dg.toNatClampNeg .null) :: aJ fl (ws.set wi.toNatClampNeg (.long (u &&& (((1 : Int64) <<< (dg.toInt64 &&& 63)) ^^^ (-1 : Int64))))) :: wE w rA sh dm bt sA fA cA tk rc :: aS sA vs :: aF fA fs :: aI cA (cs.set lv.toNatClampNeg (.int (c - (1 : Int32)))) :: aT rA rv :: F) 0 0 24 #[.val (.ref w), .val (.int lv), .val (.int dg), .val (.ref a), .unset] []) :
    Go l Z { frames := 7, cells := K, slots := N, locals := 150 } E Q (aT sl hs :: aJ fl ws :: wE w rA sh dm bt sA fA cA tk rc :: aS sA vs :: aF fA fs :: aI cA cs :: aT rA rv :: F) 0 0 0 #[.val (.ref w), .val (.int lv), .val (.int dg), .unset, .unset] [] := by
  refine Go.aloadN C d18_0 rfl rfl rfl ?_
  refine Go.gf C (wd hw 46 rfl) 2 4 rfl rfl d18_1 rfl ?_
  refine Go.iloadN C d18_4 rfl rfl ?_
  refine Go.aaload C (fun _ r => r.arr 3 rfl) rfl h0 (v := (.ref sl)) hvs d18_5 (q := 6) rfl ?_
  refine Go.iloadN C d18_6 rfl rfl ?_
  refine Go.aaload C (fun _ r => r.arr 0 rfl) rfl g0 (v := (.ref a)) hhs d18_7 (q := 8) rfl ?_
  refine Go.astoreN C d18_8 rfl rfl (Ls' := #[.val (.ref w), .val (.int lv), .val (.int dg), .val (.ref a), .unset]) rfl ?_
  refine Go.aloadN C d18_9 rfl rfl rfl ?_
  refine Go.gf C (wd hw 46 rfl) 2 4 rfl rfl d18_10 rfl ?_
  refine Go.iloadN C d18_13 rfl rfl ?_
  refine Go.aaload C (fun _ r => r.arr 3 rfl) rfl h0 (v := (.ref sl)) hvs d18_14 (q := 15) rfl ?_
  refine Go.iloadN C d18_15 rfl rfl ?_
  refine Go.aconstNull C d18_16 rfl ?_
  refine Go.aastore C (i := 0) rfl g0 (own_lt hhs) (fun _ _ => Or.inl rfl) d18_17 (q := 18) rfl (M' := (aT sl (hs.set dg.toNatClampNeg .null) :: aJ fl ws :: wE w rA sh dm bt sA fA cA tk rc :: aS sA vs :: aF fA fs :: aI cA cs :: aT rA rv :: F)) rfl ?_
  refine Go.aloadN C d18_18 rfl rfl rfl ?_
  refine Go.iloadN C d18_19 rfl rfl ?_
  refine Go.iloadN C d18_20 rfl rfl ?_
  refine Go.pick (M' := (aJ fl ws :: wE w rA sh dm bt sA fA cA tk rc :: aF fA fs :: aI cA cs :: aT sl (hs.set dg.toNatClampNeg .null) :: aS sA vs :: aT rA rv :: F)) 7 [1, 2, 4, 5, 0, 3, 6] (by decide) (by decide) rfl ?_
  refine Go.callP C (y := yN24) (a := w) (as := [(.int lv), (.int dg)]) (rest := []) (wd hw 139 rfl) (wd hw 140 rfl) (sel_priv (y := yN24) (wd hw 19 rfl) (wd hw 140 rfl) (wd hw 141 rfl) (by first | decide | exact Nat.le_of_ble_eq_true rfl)) (wd hw 141 rfl) (wd hw 142 rfl) (wd hw 20 rfl) (fun _ r => r.exa 1 rfl) (m_clear l Z a0 hw _ h0 hfs hcs hwi w0 hws) rfl d18_21 (q := 24) rfl (by first | decide | exact Nat.le_of_ble_eq_true rfl) rfl (na := 2) (by decide +kernel) rfl (by first | decide | exact Nat.le_of_ble_eq_true rfl) (W := 0) rfl (by first | decide | exact Nat.le_of_ble_eq_true rfl) (Nat.zero_le _) (Nat.zero_le _) (k' := 0) (n' := 0) rfl rfl ?_
  rintro _ _ ⟨rfl, rfl⟩
  show Go _ _ _ _ _ _ _ _ _ _ []
  refine Go.pick (M' := (aT sl (hs.set dg.toNatClampNeg .null) :: aJ fl (ws.set wi.toNatClampNeg (.long (u &&& (((1 : Int64) <<< (dg.toInt64 &&& 63)) ^^^ (-1 : Int64))))) :: wE w rA sh dm bt sA fA cA tk rc :: aS sA vs :: aF fA fs :: aI cA (cs.set lv.toNatClampNeg (.int (c - (1 : Int32)))) :: aT rA rv :: F)) 7 [4, 0, 1, 5, 2, 3, 6] (by decide) (by decide) rfl ?_
  exact hk
theorem d18_24 : decode prog_12_method_7_code 24 = .ok (.aload_n 3, 1) := by decide +kernel
theorem d18_25 : decode prog_12_method_7_code 25 = .ok (.ifnull 40, 3) := by decide +kernel
theorem d18_65 : decode prog_12_method_7_code 65 = .ok (.return_, 1) := by decide +kernel
theorem g_mv0 (l : Launch) (Z : State) (a0 : Array Value) (hw : HW Z a0) {E : E0} {Q : PQ} {t0 t1 t2 : Addr} {w sA fA cA rA : Addr} {sh : Int32} {dm : Int64} {bt rc : Int32} {tk : Int64} {rv : List Value} {D : Nat → Int64} {s : Nat → Int32} {p nx : Nat → Value} {vs fs cs : List Value} {LS : List Ent} {lv dg : Int32} {s4 : Slot} {K N k n' : Nat} (C : Cx Z yN26 prog_12_method_7_code 5 none E) (hkK : k ≤ K) (hnN : n' ≤ N) (hq : Q none (tE t0 .null .null (D 0) (nx 0) (p 0) (s 0) :: tE t1 .null .null (D 1) (nx 1) (p 1) (s 1) :: tE t2 .null .null (D 2) (nx 2) (p 2) (s 2) :: wE w rA sh dm bt sA fA cA tk rc :: aS sA vs :: aF fA fs :: aI cA cs :: aT rA rv :: LS)) :
    Go l Z { frames := 7, cells := K, slots := N, locals := 150 } E Q (tE t0 .null .null (D 0) (nx 0) (p 0) (s 0) :: tE t1 .null .null (D 1) (nx 1) (p 1) (s 1) :: tE t2 .null .null (D 2) (nx 2) (p 2) (s 2) :: wE w rA sh dm bt sA fA cA tk rc :: aS sA vs :: aF fA fs :: aI cA cs :: aT rA rv :: LS) k n' 24 #[.val (.ref w), .val (.int lv), .val (.int dg), .val .null, s4] [] := by
  refine Go.aloadN C d18_24 rfl rfl rfl ?_
  refine Go.nullYes C d18_25 (by decide) (q := 65) rfl rfl ?_
  refine Go.ret0 C rfl d18_65 hkK hnN ?_
  exact hq
theorem d18_28 : decode prog_12_method_7_code 28 = .ok (.aload_n 3, 1) := by decide +kernel
theorem d18_29 : decode prog_12_method_7_code 29 = .ok (.getfield 104, 3) := by decide +kernel
theorem d18_32 : decode prog_12_method_7_code 32 = .ok (.astore 4, 2) := by decide +kernel
theorem d18_34 : decode prog_12_method_7_code 34 = .ok (.aload_n 3, 1) := by decide +kernel
theorem d18_35 : decode prog_12_method_7_code 35 = .ok (.invokevirtual 90, 3) := by decide +kernel
theorem d18_38 : decode prog_12_method_7_code 38 = .ok (.ifCond .eq 16, 3) := by decide +kernel
theorem d18_41 : decode prog_12_method_7_code 41 = .ok (.aload_n 3, 1) := by decide +kernel
theorem d18_42 : decode prog_12_method_7_code 42 = .ok (.aconst_null, 1) := by decide +kernel
theorem d18_43 : decode prog_12_method_7_code 43 = .ok (.putfield 97, 3) := by decide +kernel
theorem d18_46 : decode prog_12_method_7_code 46 = .ok (.aload_n 3, 1) := by decide +kernel
theorem d18_47 : decode prog_12_method_7_code 47 = .ok (.aconst_null, 1) := by decide +kernel
theorem d18_48 : decode prog_12_method_7_code 48 = .ok (.putfield 104, 3) := by decide +kernel
theorem d18_51 : decode prog_12_method_7_code 51 = .ok (.goto 8, 3) := by decide +kernel
theorem d18_59 : decode prog_12_method_7_code 59 = .ok (.aload 4, 2) := by decide +kernel
theorem d18_61 : decode prog_12_method_7_code 61 = .ok (.astore_n 3, 1) := by decide +kernel
theorem d18_62 : decode prog_12_method_7_code 62 = .ok (.goto (-38), 3) := by decide +kernel
theorem g_mvC0 (l : Launch) (Z : State) (a0 : Array Value) (hw : HW Z a0) {E : E0} {Q : PQ} {t0 t1 t2 : Addr} {w sA fA cA rA : Addr} {sh : Int32} {dm : Int64} {bt rc : Int32} {tk : Int64} {rv : List Value} {D : Nat → Int64} {s : Nat → Int32} {p nx : Nat → Value} {vs fs cs : List Value} {LS : List Ent} {lv dg : Int32} {s4 : Slot} {K N k n' : Nat} (C : Cx Z yN26 prog_12_method_7_code 5 none E) (hkK : k ≤ K) (hnN : n' ≤ N) (hl : s 0 = (1 : Int32)) (hxr : (nx 0).isRef = true) (p4 : Pl s4) (hk : Go l Z { frames := 7, cells := K, slots := N, locals := 150 } E Q (tE t0 .null .null (D 0) .null .null (s 0) :: tE t1 .null .null (D 1) (nx 1) (p 1) (s 1) :: tE t2 .null .null (D 2) (nx 2) (p 2) (s 2) :: wE w rA sh dm bt sA fA cA tk rc :: aS sA vs :: aF fA fs :: aI cA cs :: aT rA rv :: LS) k n' 24 #[.val (.ref w), .val (.int lv), .val (.int dg), .val (nx 0), .val (nx 0)] []) :
    Go l Z { frames := 7, cells := K, slots := N, locals := 150 } E Q (tE t0 .null .null (D 0) (nx 0) (p 0) (s 0) :: tE t1 .null .null (D 1) (nx 1) (p 1) (s 1) :: tE t2 .null .null (D 2) (nx 2) (p 2) (s 2) :: wE w rA sh dm bt sA fA cA tk rc :: aS sA vs :: aF fA fs :: aI cA cs :: aT rA rv :: LS) k n' 24 #[.val (.ref w), .val (.int lv), .val (.int dg), .val (.ref t0), s4] [] := by
  refine Go.aloadN C d18_24 rfl rfl rfl ?_
  refine Go.nullNo C d18_25 (q := 28) rfl rfl (by simp) ?_
  refine Go.aloadN C d18_28 rfl rfl rfl ?_
  refine Go.gf C (wd hw 99 rfl) 0 3 rfl rfl d18_29 rfl ?_
  refine Go.astore C d18_32 rfl hxr (Ls' := #[.val (.ref w), .val (.int lv), .val (.int dg), .val (.ref t0), .val (nx 0)]) (stl rfl p4 (XT.cat1 hxr) rfl) ?_
  refine Go.aloadN C d18_34 rfl rfl rfl ?_
  refine Go.callV C (y := yN27) (z := yN27) (a := t0) (as := []) (rest := []) (wd hw 153 rfl) (wd hw 154 rfl) (nf_sel (z := yN27) (wd hw 156 rfl)) (wd hw 156 rfl) (wd hw 155 rfl) (wd hw 157 rfl) (wd hw 7 rfl) (fun _ r => r.exa 0 rfl) (m_isC1 l Z a0 hw _ hl) rfl d18_35 (q := 38) rfl (by first | decide | exact Nat.le_of_ble_eq_true rfl) rfl (na := 0) (by decide +kernel) rfl (by first | decide | exact Nat.le_of_ble_eq_true rfl) (W := 0) rfl (by first | decide | exact Nat.le_of_ble_eq_true rfl) hkK hnN (k' := k) (n' := n') rfl rfl ?_
  rintro _ _ ⟨rfl, rfl⟩
  show Go _ _ _ _ _ _ _ _ _ _ [(.int (1 : Int32))]
  refine Go.ifNo C d18_38 (q := 41) rfl (XT.i0_eq_f (by decide)) ?_
  refine Go.aloadN C d18_41 rfl rfl rfl ?_
  refine Go.aconstNull C d18_42 rfl ?_
  refine Go.pf C (wd hw 101 rfl) Via.refl 0 4 rfl rfl (wd hw 102 rfl) (wd hw 6 rfl) (ty := (.object "com/example/charkha/charkha/Timeout")) (by decide) rfl rfl d18_43 rfl (M' := (tE t0 .null .null (D 0) (nx 0) .null (s 0) :: tE t1 .null .null (D 1) (nx 1) (p 1) (s 1) :: tE t2 .null .null (D 2) (nx 2) (p 2) (s 2) :: wE w rA sh dm bt sA fA cA tk rc :: aS sA vs :: aF fA fs :: aI cA cs :: aT rA rv :: LS)) rfl ?_
  refine Go.aloadN C d18_46 rfl rfl rfl ?_
  refine Go.aconstNull C d18_47 rfl ?_
  refine Go.pf C (wd hw 99 rfl) Via.refl 0 3 rfl rfl (wd hw 100 rfl) (wd hw 6 rfl) (ty := (.object "com/example/charkha/charkha/Timeout")) (by decide) rfl rfl d18_48 rfl (M' := (tE t0 .null .null (D 0) .null .null (s 0) :: tE t1 .null .null (D 1) (nx 1) (p 1) (s 1) :: tE t2 .null .null (D 2) (nx 2) (p 2) (s 2) :: wE w rA sh dm bt sA fA cA tk rc :: aS sA vs :: aF fA fs :: aI cA cs :: aT rA rv :: LS)) rfl ?_
  refine Go.goto C d18_51 (by decide) (q := 59) rfl ?_
  refine Go.aload C d18_59 rfl rfl hxr ?_
  refine Go.astoreN C d18_61 rfl hxr (Ls' := #[.val (.ref w), .val (.int lv), .val (.int dg), .val (nx 0), .val (nx 0)]) (stl rfl (Or.inr ⟨_, rfl, rfl⟩) (XT.cat1 hxr) rfl) ?_
  refine Go.goto C d18_62 (by decide) (q := 24) rfl ?_
  exact hk
theorem d18_54 : decode prog_12_method_7_code 54 = .ok (.aload_n 0, 1) := by decide +kernel
theorem d18_55 : decode prog_12_method_7_code 55 = .ok (.aload_n 3, 1) := by decide +kernel
theorem d18_56 : decode prog_12_method_7_code 56 = .ok (.invokevirtual 59, 3) := by decide +kernel
theorem g_mvF0 (l : Launch) (Z : State) (a0 : Array Value) (hw : HW Z a0) {E : E0} {Q : PQ} {t0 t1 t2 : Addr} {w sA fA cA rA : Addr} {sh : Int32} {dm : Int64} {bt rc : Int32} {tk : Int64} {rv : List Value} {D : Nat → Int64} {s : Nat → Int32} {p nx : Nat → Value} {vs fs cs : List Value} {LS : List Ent} {lv dg : Int32} {s4 : Slot} {K N k n' : Nat} {n : Nat} {zs : Nat → Nat} {B : List Bk} {R ks : List Nat} {lN d : Nat} (C : Cx Z yN26 prog_12_method_7_code 5 none E) (hkK : k + own_fc ks lN ≤ K) (hnN : n' + own_fz zs ks lN ≤ N) (hZ : Zs sh bt n zs) (hI : InvK (own_t3 t0 t1 t2) sh dm tk n zs D p nx vs fs cs LS B R ks) (hxR : 0 ∈ R) (q1 : lN < n) (q2 : d < zs lN) (q3 : Pc sh dm tk (D 0) lN d) (hl : ¬ s 0 = (1 : Int32)) (hxr : (nx 0).isRef = true) (p4 : Pl s4) (hk : ∀ (p' nx' : Nat → Value) (vs' fs' cs' : List Value) (LS' : List Ent) (B' : List Bk), InvK (own_t3 t0 t1 t2) sh dm tk n zs D p' nx' vs' fs' cs' LS' B' (R.erase 0) (own_ins ks lN) → (own_fl B').Perm (0 :: own_fl B) → (∀ j ∈ R, j ≠ 0 → p' j = p j ∧ nx' j = nx j) → Go l Z { frames := 7, cells := K, slots := N, locals := 150 } E Q (tE t0 .null .null (D 0) (nx' 0) (p' 0) (s 0) :: tE t1 .null .null (D 1) (nx' 1) (p' 1) (s 1) :: tE t2 .null .null (D 2) (nx' 2) (p' 2) (s 2) :: wE w rA sh dm bt sA fA cA tk rc :: aS sA vs' :: aF fA fs' :: aI cA cs' :: aT rA rv :: LS') (k + own_fc ks lN) (n' + own_fz zs ks lN) 24 #[.val (.ref w), .val (.int lv), .val (.int dg), .val (nx 0), .val (nx 0)] []) :
    Go l Z { frames := 7, cells := K, slots := N, locals := 150 } E Q (tE t0 .null .null (D 0) (nx 0) (p 0) (s 0) :: tE t1 .null .null (D 1) (nx 1) (p 1) (s 1) :: tE t2 .null .null (D 2) (nx 2) (p 2) (s 2) :: wE w rA sh dm bt sA fA cA tk rc :: aS sA vs :: aF fA fs :: aI cA cs :: aT rA rv :: LS) k n' 24 #[.val (.ref w), .val (.int lv), .val (.int dg), .val (.ref t0), s4] [] := by
  refine Go.aloadN C d18_24 rfl rfl rfl ?_
  refine Go.nullNo C d18_25 (q := 28) rfl rfl (by simp) ?_
  refine Go.aloadN C d18_28 rfl rfl rfl ?_
  refine Go.gf C (wd hw 99 rfl) 0 3 rfl rfl d18_29 rfl ?_
  refine Go.astore C d18_32 rfl hxr (Ls' := #[.val (.ref w), .val (.int lv), .val (.int dg), .val (.ref t0), .val (nx 0)]) (stl rfl p4 (XT.cat1 hxr) rfl) ?_
  refine Go.aloadN C d18_34 rfl rfl rfl ?_
  refine Go.callV C (y := yN27) (z := yN27) (a := t0) (as := []) (rest := []) (wd hw 153 rfl) (wd hw 154 rfl) (nf_sel (z := yN27) (wd hw 156 rfl)) (wd hw 156 rfl) (wd hw 155 rfl) (wd hw 157 rfl) (wd hw 7 rfl) (fun _ r => r.exa 0 rfl) (m_isC0 l Z a0 hw _ hl) rfl d18_35 (q := 38) rfl (by first | decide | exact Nat.le_of_ble_eq_true rfl) rfl (na := 0) (by decide +kernel) rfl (by first | decide | exact Nat.le_of_ble_eq_true rfl) (W := 0) rfl (by first | decide | exact Nat.le_of_ble_eq_true rfl) (Nat.le_trans (Nat.le_add_right _ _) hkK) (Nat.le_trans (Nat.le_add_right _ _) hnN) (k' := k) (n' := n') rfl rfl ?_
  rintro _ _ ⟨rfl, rfl⟩
  show Go _ _ _ _ _ _ _ _ _ _ [(.int (0 : Int32))]
  refine Go.ifYes C d18_38 (by decide) (q := 54) rfl (XT.i0_eq_t (by decide)) ?_
  refine Go.aloadN C d18_54 rfl rfl rfl ?_
  refine Go.aloadN C d18_55 rfl rfl rfl ?_
  refine Go.callP C (y := yN11) (a := w) (as := [(.ref t0)]) (rest := []) (wd hw 81 rfl) (wd hw 82 rfl) (sel_priv (y := yN11) (wd hw 19 rfl) (wd hw 82 rfl) (wd hw 83 rfl) (by first | decide | exact Nat.le_of_ble_eq_true rfl)) (wd hw 83 rfl) (wd hw 84 rfl) (wd hw 20 rfl) (fun _ r => r.exa 3 rfl) (own_fileK l Z a0 hw hZ hI hxR q1 q2 q3 (i := 0) rfl) rfl d18_56 (q := 59) rfl (by first | decide | exact Nat.le_of_ble_eq_true rfl) rfl (na := 1) (by decide +kernel) rfl (by first | decide | exact Nat.le_of_ble_eq_true rfl) (W := 0) rfl (by first | decide | exact Nat.le_of_ble_eq_true rfl) hkK hnN (k' := (k + own_fc ks lN)) (n' := (n' + own_fz zs ks lN)) rfl rfl ?_
  rintro _ _ ⟨rfl, p1, nx1, vs1, fs1, cs1, LS1, B1, rfl, hI1, hY1, hF1⟩
  show Go _ _ _ _ _ _ _ _ _ _ []
  refine Go.aload C d18_59 rfl rfl hxr ?_
  refine Go.astoreN C d18_61 rfl hxr (Ls' := #[.val (.ref w), .val (.int lv), .val (.int dg), .val (nx 0), .val (nx 0)]) (stl rfl (Or.inr ⟨_, rfl, rfl⟩) (XT.cat1 hxr) rfl) ?_
  refine Go.goto C d18_62 (by decide) (q := 24) rfl ?_
  exact hk p1 nx1 vs1 fs1 cs1 LS1 B1 hI1 hY1 hF1
theorem g_mvC1 (l : Launch) (Z : State) (a0 : Array Value) (hw : HW Z a0) {E : E0} {Q : PQ} {t0 t1 t2 : Addr} {w sA fA cA rA : Addr} {sh : Int32} {dm : Int64} {bt rc : Int32} {tk : Int64} {rv : List Value} {D : Nat → Int64} {s : Nat → Int32} {p nx : Nat → Value} {vs fs cs : List Value} {LS : List Ent} {lv dg : Int32} {s4 : Slot} {K N k n' : Nat} (C : Cx Z yN26 prog_12_method_7_code 5 none E) (hkK : k ≤ K) (hnN : n' ≤ N) (hl : s 1 = (1 : Int32)) (hxr : (nx 1).isRef = true) (p4 : Pl s4) (hk : Go l Z { frames := 7, cells := K, slots := N, locals := 150 } E Q (tE t0 .null .null (D 0) (nx 0) (p 0) (s 0) :: tE t1 .null .null (D 1) .null .null (s 1) :: tE t2 .null .null (D 2) (nx 2) (p 2) (s 2) :: wE w rA sh dm bt sA fA cA tk rc :: aS sA vs :: aF fA fs :: aI cA cs :: aT rA rv :: LS) k n' 24 #[.val (.ref w), .val (.int lv), .val (.int dg), .val (nx 1), .val (nx 1)] []) :
    Go l Z { frames := 7, cells := K, slots := N, locals := 150 } E Q (tE t0 .null .null (D 0) (nx 0) (p 0) (s 0) :: tE t1 .null .null (D 1) (nx 1) (p 1) (s 1) :: tE t2 .null .null (D 2) (nx 2) (p 2) (s 2) :: wE w rA sh dm bt sA fA cA tk rc :: aS sA vs :: aF fA fs :: aI cA cs :: aT rA rv :: LS) k n' 24 #[.val (.ref w), .val (.int lv), .val (.int dg), .val (.ref t1), s4] [] := by
  refine Go.aloadN C d18_24 rfl rfl rfl ?_
  refine Go.nullNo C d18_25 (q := 28) rfl rfl (by simp) ?_
  refine Go.aloadN C d18_28 rfl rfl rfl ?_
  refine Go.gf C (wd hw 99 rfl) 1 3 rfl rfl d18_29 rfl ?_
  refine Go.astore C d18_32 rfl hxr (Ls' := #[.val (.ref w), .val (.int lv), .val (.int dg), .val (.ref t1), .val (nx 1)]) (stl rfl p4 (XT.cat1 hxr) rfl) ?_
  refine Go.aloadN C d18_34 rfl rfl rfl ?_
  refine Go.pick (M' := (tE t1 .null .null (D 1) (nx 1) (p 1) (s 1) :: tE t0 .null .null (D 0) (nx 0) (p 0) (s 0) :: tE t2 .null .null (D 2) (nx 2) (p 2) (s 2) :: wE w rA sh dm bt sA fA cA tk rc :: aS sA vs :: aF fA fs :: aI cA cs :: aT rA rv :: LS)) 8 [1, 0, 2, 3, 4, 5, 6, 7] (by decide) (by decide) rfl ?_
  refine Go.callV C (y := yN27) (z := yN27) (a := t1) (as := []) (rest := []) (wd hw 153 rfl) (wd hw 154 rfl) (nf_sel (z := yN27) (wd hw 156 rfl)) (wd hw 156 rfl) (wd hw 155 rfl) (wd hw 157 rfl) (wd hw 7 rfl) (fun _ r => r.exa 0 rfl) (m_isC1 l Z a0 hw _ hl) rfl d18_35 (q := 38) rfl (by first | decide | exact Nat.le_of_ble_eq_true rfl) rfl (na := 0) (by decide +kernel) rfl (by first | decide | exact Nat.le_of_ble_eq_true rfl) (W := 0) rfl (by first | decide | exact Nat.le_of_ble_eq_true rfl) hkK hnN (k' := k) (n' := n') rfl rfl ?_
  rintro _ _ ⟨rfl, rfl⟩
  show Go _ _ _ _ _ _ _ _ _ _ [(.int (1 : Int32))]
  refine Go.ifNo C d18_38 (q := 41) rfl (XT.i0_eq_f (by decide)) ?_
  refine Go.aloadN C d18_41 rfl rfl rfl ?_
  refine Go.aconstNull C d18_42 rfl ?_
  refine Go.pf C (wd hw 101 rfl) Via.refl 0 4 rfl rfl (wd hw 102 rfl) (wd hw 6 rfl) (ty := (.object "com/example/charkha/charkha/Timeout")) (by decide) rfl rfl d18_43 rfl (M' := (tE t1 .null .null (D 1) (nx 1) .null (s 1) :: tE t0 .null .null (D 0) (nx 0) (p 0) (s 0) :: tE t2 .null .null (D 2) (nx 2) (p 2) (s 2) :: wE w rA sh dm bt sA fA cA tk rc :: aS sA vs :: aF fA fs :: aI cA cs :: aT rA rv :: LS)) rfl ?_
  refine Go.aloadN C d18_46 rfl rfl rfl ?_
  refine Go.aconstNull C d18_47 rfl ?_
  refine Go.pf C (wd hw 99 rfl) Via.refl 0 3 rfl rfl (wd hw 100 rfl) (wd hw 6 rfl) (ty := (.object "com/example/charkha/charkha/Timeout")) (by decide) rfl rfl d18_48 rfl (M' := (tE t1 .null .null (D 1) .null .null (s 1) :: tE t0 .null .null (D 0) (nx 0) (p 0) (s 0) :: tE t2 .null .null (D 2) (nx 2) (p 2) (s 2) :: wE w rA sh dm bt sA fA cA tk rc :: aS sA vs :: aF fA fs :: aI cA cs :: aT rA rv :: LS)) rfl ?_
  refine Go.goto C d18_51 (by decide) (q := 59) rfl ?_
  refine Go.aload C d18_59 rfl rfl hxr ?_
  refine Go.astoreN C d18_61 rfl hxr (Ls' := #[.val (.ref w), .val (.int lv), .val (.int dg), .val (nx 1), .val (nx 1)]) (stl rfl (Or.inr ⟨_, rfl, rfl⟩) (XT.cat1 hxr) rfl) ?_
  refine Go.pick (M' := (tE t0 .null .null (D 0) (nx 0) (p 0) (s 0) :: tE t1 .null .null (D 1) .null .null (s 1) :: tE t2 .null .null (D 2) (nx 2) (p 2) (s 2) :: wE w rA sh dm bt sA fA cA tk rc :: aS sA vs :: aF fA fs :: aI cA cs :: aT rA rv :: LS)) 8 [1, 0, 2, 3, 4, 5, 6, 7] (by decide) (by decide) rfl ?_
  refine Go.goto C d18_62 (by decide) (q := 24) rfl ?_
  exact hk
theorem g_mvF1 (l : Launch) (Z : State) (a0 : Array Value) (hw : HW Z a0) {E : E0} {Q : PQ} {t0 t1 t2 : Addr} {w sA fA cA rA : Addr} {sh : Int32} {dm : Int64} {bt rc : Int32} {tk : Int64} {rv : List Value} {D : Nat → Int64} {s : Nat → Int32} {p nx : Nat → Value} {vs fs cs : List Value} {LS : List Ent} {lv dg : Int32} {s4 : Slot} {K N k n' : Nat} {n : Nat} {zs : Nat → Nat} {B : List Bk} {R ks : List Nat} {lN d : Nat} (C : Cx Z yN26 prog_12_method_7_code 5 none E) (hkK : k + own_fc ks lN ≤ K) (hnN : n' + own_fz zs ks lN ≤ N) (hZ : Zs sh bt n zs) (hI : InvK (own_t3 t0 t1 t2) sh dm tk n zs D p nx vs fs cs LS B R ks) (hxR : 1 ∈ R) (q1 : lN < n) (q2 : d < zs lN) (q3 : Pc sh dm tk (D 1) lN d) (hl : ¬ s 1 = (1 : Int32)) (hxr : (nx 1).isRef = true) (p4 : Pl s4) (hk : ∀ (p' nx' : Nat → Value) (vs' fs' cs' : List Value) (LS' : List Ent) (B' : List Bk), InvK (own_t3 t0 t1 t2) sh dm tk n zs D p' nx' vs' fs' cs' LS' B' (R.erase 1) (own_ins ks lN) → (own_fl B').Perm (1 :: own_fl B) → (∀ j ∈ R, j ≠ 1 → p' j = p j ∧ nx' j = nx j) → Go l Z { frames := 7, cells := K, slots := N, locals := 150 } E Q (tE t0 .null .null (D 0) (nx' 0) (p' 0) (s 0) :: tE t1 .null .null (D 1) (nx' 1) (p' 1) (s 1) :: tE t2 .null .null (D 2) (nx' 2) (p' 2) (s 2) :: wE w rA sh dm bt sA fA cA tk rc :: aS sA vs' :: aF fA fs' :: aI cA cs' :: aT rA rv :: LS') (k + own_fc ks lN) (n' + own_fz zs ks lN) 24 #[.val (.ref w), .val (.int lv), .val (.int dg), .val (nx 1), .val (nx 1)] []) :
    Go l Z { frames := 7, cells := K, slots := N, locals := 150 } E Q (tE t0 .null .null (D 0) (nx 0) (p 0) (s 0) :: tE t1 .null .null (D 1) (nx 1) (p 1) (s 1) :: tE t2 .null .null (D 2) (nx 2) (p 2) (s 2) :: wE w rA sh dm bt sA fA cA tk rc :: aS sA vs :: aF fA fs :: aI cA cs :: aT rA rv :: LS) k n' 24 #[.val (.ref w), .val (.int lv), .val (.int dg), .val (.ref t1), s4] [] := by
  refine Go.aloadN C d18_24 rfl rfl rfl ?_
  refine Go.nullNo C d18_25 (q := 28) rfl rfl (by simp) ?_
  refine Go.aloadN C d18_28 rfl rfl rfl ?_
  refine Go.gf C (wd hw 99 rfl) 1 3 rfl rfl d18_29 rfl ?_
  refine Go.astore C d18_32 rfl hxr (Ls' := #[.val (.ref w), .val (.int lv), .val (.int dg), .val (.ref t1), .val (nx 1)]) (stl rfl p4 (XT.cat1 hxr) rfl) ?_
  refine Go.aloadN C d18_34 rfl rfl rfl ?_
  refine Go.pick (M' := (tE t1 .null .null (D 1) (nx 1) (p 1) (s 1) :: tE t0 .null .null (D 0) (nx 0) (p 0) (s 0) :: tE t2 .null .null (D 2) (nx 2) (p 2) (s 2) :: wE w rA sh dm bt sA fA cA tk rc :: aS sA vs :: aF fA fs :: aI cA cs :: aT rA rv :: LS)) 8 [1, 0, 2, 3, 4, 5, 6, 7] (by decide) (by decide) rfl ?_
  refine Go.callV C (y := yN27) (z := yN27) (a := t1) (as := []) (rest := []) (wd hw 153 rfl) (wd hw 154 rfl) (nf_sel (z := yN27) (wd hw 156 rfl)) (wd hw 156 rfl) (wd hw 155 rfl) (wd hw 157 rfl) (wd hw 7 rfl) (fun _ r => r.exa 0 rfl) (m_isC0 l Z a0 hw _ hl) rfl d18_35 (q := 38) rfl (by first | decide | exact Nat.le_of_ble_eq_true rfl) rfl (na := 0) (by decide +kernel) rfl (by first | decide | exact Nat.le_of_ble_eq_true rfl) (W := 0) rfl (by first | decide | exact Nat.le_of_ble_eq_true rfl) (Nat.le_trans (Nat.le_add_right _ _) hkK) (Nat.le_trans (Nat.le_add_right _ _) hnN) (k' := k) (n' := n') rfl rfl ?_
  rintro _ _ ⟨rfl, rfl⟩
  show Go _ _ _ _ _ _ _ _ _ _ [(.int (0 : Int32))]
  refine Go.ifYes C d18_38 (by decide) (q := 54) rfl (XT.i0_eq_t (by decide)) ?_
  refine Go.aloadN C d18_54 rfl rfl rfl ?_
  refine Go.aloadN C d18_55 rfl rfl rfl ?_
  refine Go.pick (M' := (tE t0 .null .null (D 0) (nx 0) (p 0) (s 0) :: tE t1 .null .null (D 1) (nx 1) (p 1) (s 1) :: tE t2 .null .null (D 2) (nx 2) (p 2) (s 2) :: wE w rA sh dm bt sA fA cA tk rc :: aS sA vs :: aF fA fs :: aI cA cs :: aT rA rv :: LS)) 8 [1, 0, 2, 3, 4, 5, 6, 7] (by decide) (by decide) rfl ?_
  refine Go.callP C (y := yN11) (a := w) (as := [(.ref t1)]) (rest := []) (wd hw 81 rfl) (wd hw 82 rfl) (sel_priv (y := yN11) (wd hw 19 rfl) (wd hw 82 rfl) (wd hw 83 rfl) (by first | decide | exact Nat.le_of_ble_eq_true rfl)) (wd hw 83 rfl) (wd hw 84 rfl) (wd hw 20 rfl) (fun _ r => r.exa 3 rfl) (own_fileK l Z a0 hw hZ hI hxR q1 q2 q3 (i := 1) rfl) rfl d18_56 (q := 59) rfl (by first | decide | exact Nat.le_of_ble_eq_true rfl) rfl (na := 1) (by decide +kernel) rfl (by first | decide | exact Nat.le_of_ble_eq_true rfl) (W := 0) rfl (by first | decide | exact Nat.le_of_ble_eq_true rfl) hkK hnN (k' := (k + own_fc ks lN)) (n' := (n' + own_fz zs ks lN)) rfl rfl ?_
  rintro _ _ ⟨rfl, p1, nx1, vs1, fs1, cs1, LS1, B1, rfl, hI1, hY1, hF1⟩
  show Go _ _ _ _ _ _ _ _ _ _ []
  refine Go.aload C d18_59 rfl rfl hxr ?_
  refine Go.astoreN C d18_61 rfl hxr (Ls' := #[.val (.ref w), .val (.int lv), .val (.int dg), .val (nx 1), .val (nx 1)]) (stl rfl (Or.inr ⟨_, rfl, rfl⟩) (XT.cat1 hxr) rfl) ?_
  refine Go.goto C d18_62 (by decide) (q := 24) rfl ?_
  exact hk p1 nx1 vs1 fs1 cs1 LS1 B1 hI1 hY1 hF1
theorem g_mvC2 (l : Launch) (Z : State) (a0 : Array Value) (hw : HW Z a0) {E : E0} {Q : PQ} {t0 t1 t2 : Addr} {w sA fA cA rA : Addr} {sh : Int32} {dm : Int64} {bt rc : Int32} {tk : Int64} {rv : List Value} {D : Nat → Int64} {s : Nat → Int32} {p nx : Nat → Value} {vs fs cs : List Value} {LS : List Ent} {lv dg : Int32} {s4 : Slot} {K N k n' : Nat} (C : Cx Z yN26 prog_12_method_7_code 5 none E) (hkK : k ≤ K) (hnN : n' ≤ N) (hl : s 2 = (1 : Int32)) (hxr : (nx 2).isRef = true) (p4 : Pl s4) (hk : Go l Z { frames := 7, cells := K, slots := N, locals := 150 } E Q (tE t0 .null .null (D 0) (nx 0) (p 0) (s 0) :: tE t1 .null .null (D 1) (nx 1) (p 1) (s 1) :: tE t2 .null .null (D 2) .null .null (s 2) :: wE w rA sh dm bt sA fA cA tk rc :: aS sA vs :: aF fA fs :: aI cA cs :: aT rA rv :: LS) k n' 24 #[.val (.ref w), .val (.int lv), .val (.int dg), .val (nx 2), .val (nx 2)] []) :
    Go l Z { frames := 7, cells := K, slots := N, locals := 150 } E Q (tE t0 .null .null (D 0) (nx 0) (p 0) (s 0) :: tE t1 .null .null (D 1) (nx 1) (p 1) (s 1) :: tE t2 .null .null (D 2) (nx 2) (p 2) (s 2) :: wE w rA sh dm bt sA fA cA tk rc :: aS sA vs :: aF fA fs :: aI cA cs :: aT rA rv :: LS) k n' 24 #[.val (.ref w), .val (.int lv), .val (.int dg), .val (.ref t2), s4] [] := by
  refine Go.aloadN C d18_24 rfl rfl rfl ?_
  refine Go.nullNo C d18_25 (q := 28) rfl rfl (by simp) ?_
  refine Go.aloadN C d18_28 rfl rfl rfl ?_
  refine Go.gf C (wd hw 99 rfl) 2 3 rfl rfl d18_29 rfl ?_
  refine Go.astore C d18_32 rfl hxr (Ls' := #[.val (.ref w), .val (.int lv), .val (.int dg), .val (.ref t2), .val (nx 2)]) (stl rfl p4 (XT.cat1 hxr) rfl) ?_
  refine Go.aloadN C d18_34 rfl rfl rfl ?_
  refine Go.pick (M' := (tE t2 .null .null (D 2) (nx 2) (p 2) (s 2) :: tE t0 .null .null (D 0) (nx 0) (p 0) (s 0) :: tE t1 .null .null (D 1) (nx 1) (p 1) (s 1) :: wE w rA sh dm bt sA fA cA tk rc :: aS sA vs :: aF fA fs :: aI cA cs :: aT rA rv :: LS)) 8 [2, 0, 1, 3, 4, 5, 6, 7] (by decide) (by decide) rfl ?_
  refine Go.callV C (y := yN27) (z := yN27) (a := t2) (as := []) (rest := []) (wd hw 153 rfl) (wd hw 154 rfl) (nf_sel (z := yN27) (wd hw 156 rfl)) (wd hw 156 rfl) (wd hw 155 rfl) (wd hw 157 rfl) (wd hw 7 rfl) (fun _ r => r.exa 0 rfl) (m_isC1 l Z a0 hw _ hl) rfl d18_35 (q := 38) rfl (by first | decide | exact Nat.le_of_ble_eq_true rfl) rfl (na := 0) (by decide +kernel) rfl (by first | decide | exact Nat.le_of_ble_eq_true rfl) (W := 0) rfl (by first | decide | exact Nat.le_of_ble_eq_true rfl) hkK hnN (k' := k) (n' := n') rfl rfl ?_
  rintro _ _ ⟨rfl, rfl⟩
  show Go _ _ _ _ _ _ _ _ _ _ [(.int (1 : Int32))]
  refine Go.ifNo C d18_38 (q := 41) rfl (XT.i0_eq_f (by decide)) ?_
  refine Go.aloadN C d18_41 rfl rfl rfl ?_
  refine Go.aconstNull C d18_42 rfl ?_
  refine Go.pf C (wd hw 101 rfl) Via.refl 0 4 rfl rfl (wd hw 102 rfl) (wd hw 6 rfl) (ty := (.object "com/example/charkha/charkha/Timeout")) (by decide) rfl rfl d18_43 rfl (M' := (tE t2 .null .null (D 2) (nx 2) .null (s 2) :: tE t0 .null .null (D 0) (nx 0) (p 0) (s 0) :: tE t1 .null .null (D 1) (nx 1) (p 1) (s 1) :: wE w rA sh dm bt sA fA cA tk rc :: aS sA vs :: aF fA fs :: aI cA cs :: aT rA rv :: LS)) rfl ?_
  refine Go.aloadN C d18_46 rfl rfl rfl ?_
  refine Go.aconstNull C d18_47 rfl ?_
  refine Go.pf C (wd hw 99 rfl) Via.refl 0 3 rfl rfl (wd hw 100 rfl) (wd hw 6 rfl) (ty := (.object "com/example/charkha/charkha/Timeout")) (by decide) rfl rfl d18_48 rfl (M' := (tE t2 .null .null (D 2) .null .null (s 2) :: tE t0 .null .null (D 0) (nx 0) (p 0) (s 0) :: tE t1 .null .null (D 1) (nx 1) (p 1) (s 1) :: wE w rA sh dm bt sA fA cA tk rc :: aS sA vs :: aF fA fs :: aI cA cs :: aT rA rv :: LS)) rfl ?_
  refine Go.goto C d18_51 (by decide) (q := 59) rfl ?_
  refine Go.aload C d18_59 rfl rfl hxr ?_
  refine Go.astoreN C d18_61 rfl hxr (Ls' := #[.val (.ref w), .val (.int lv), .val (.int dg), .val (nx 2), .val (nx 2)]) (stl rfl (Or.inr ⟨_, rfl, rfl⟩) (XT.cat1 hxr) rfl) ?_
  refine Go.pick (M' := (tE t0 .null .null (D 0) (nx 0) (p 0) (s 0) :: tE t1 .null .null (D 1) (nx 1) (p 1) (s 1) :: tE t2 .null .null (D 2) .null .null (s 2) :: wE w rA sh dm bt sA fA cA tk rc :: aS sA vs :: aF fA fs :: aI cA cs :: aT rA rv :: LS)) 8 [1, 2, 0, 3, 4, 5, 6, 7] (by decide) (by decide) rfl ?_
  refine Go.goto C d18_62 (by decide) (q := 24) rfl ?_
  exact hk
theorem g_mvF2 (l : Launch) (Z : State) (a0 : Array Value) (hw : HW Z a0) {E : E0} {Q : PQ} {t0 t1 t2 : Addr} {w sA fA cA rA : Addr} {sh : Int32} {dm : Int64} {bt rc : Int32} {tk : Int64} {rv : List Value} {D : Nat → Int64} {s : Nat → Int32} {p nx : Nat → Value} {vs fs cs : List Value} {LS : List Ent} {lv dg : Int32} {s4 : Slot} {K N k n' : Nat} {n : Nat} {zs : Nat → Nat} {B : List Bk} {R ks : List Nat} {lN d : Nat} (C : Cx Z yN26 prog_12_method_7_code 5 none E) (hkK : k + own_fc ks lN ≤ K) (hnN : n' + own_fz zs ks lN ≤ N) (hZ : Zs sh bt n zs) (hI : InvK (own_t3 t0 t1 t2) sh dm tk n zs D p nx vs fs cs LS B R ks) (hxR : 2 ∈ R) (q1 : lN < n) (q2 : d < zs lN) (q3 : Pc sh dm tk (D 2) lN d) (hl : ¬ s 2 = (1 : Int32)) (hxr : (nx 2).isRef = true) (p4 : Pl s4) (hk : ∀ (p' nx' : Nat → Value) (vs' fs' cs' : List Value) (LS' : List Ent) (B' : List Bk), InvK (own_t3 t0 t1 t2) sh dm tk n zs D p' nx' vs' fs' cs' LS' B' (R.erase 2) (own_ins ks lN) → (own_fl B').Perm (2 :: own_fl B) → (∀ j ∈ R, j ≠ 2 → p' j = p j ∧ nx' j = nx j) → Go l Z { frames := 7, cells := K, slots := N, locals := 150 } E Q (tE t0 .null .null (D 0) (nx' 0) (p' 0) (s 0) :: tE t1 .null .null (D 1) (nx' 1) (p' 1) (s 1) :: tE t2 .null .null (D 2) (nx' 2) (p' 2) (s 2) :: wE w rA sh dm bt sA fA cA tk rc :: aS sA vs' :: aF fA fs' :: aI cA cs' :: aT rA rv :: LS') (k + own_fc ks lN) (n' + own_fz zs ks lN) 24 #[.val (.ref w), .val (.int lv), .val (.int dg), .val (nx 2), .val (nx 2)] []) :
    Go l Z { frames := 7, cells := K, slots := N, locals := 150 } E Q (tE t0 .null .null (D 0) (nx 0) (p 0) (s 0) :: tE t1 .null .null (D 1) (nx 1) (p 1) (s 1) :: tE t2 .null .null (D 2) (nx 2) (p 2) (s 2) :: wE w rA sh dm bt sA fA cA tk rc :: aS sA vs :: aF fA fs :: aI cA cs :: aT rA rv :: LS) k n' 24 #[.val (.ref w), .val (.int lv), .val (.int dg), .val (.ref t2), s4] [] := by
  refine Go.aloadN C d18_24 rfl rfl rfl ?_
  refine Go.nullNo C d18_25 (q := 28) rfl rfl (by simp) ?_
  refine Go.aloadN C d18_28 rfl rfl rfl ?_
  refine Go.gf C (wd hw 99 rfl) 2 3 rfl rfl d18_29 rfl ?_
  refine Go.astore C d18_32 rfl hxr (Ls' := #[.val (.ref w), .val (.int lv), .val (.int dg), .val (.ref t2), .val (nx 2)]) (stl rfl p4 (XT.cat1 hxr) rfl) ?_
  refine Go.aloadN C d18_34 rfl rfl rfl ?_
  refine Go.pick (M' := (tE t2 .null .null (D 2) (nx 2) (p 2) (s 2) :: tE t0 .null .null (D 0) (nx 0) (p 0) (s 0) :: tE t1 .null .null (D 1) (nx 1) (p 1) (s 1) :: wE w rA sh dm bt sA fA cA tk rc :: aS sA vs :: aF fA fs :: aI cA cs :: aT rA rv :: LS)) 8 [2, 0, 1, 3, 4, 5, 6, 7] (by decide) (by decide) rfl ?_
  refine Go.callV C (y := yN27) (z := yN27) (a := t2) (as := []) (rest := []) (wd hw 153 rfl) (wd hw 154 rfl) (nf_sel (z := yN27) (wd hw 156 rfl)) (wd hw 156 rfl) (wd hw 155 rfl) (wd hw 157 rfl) (wd hw 7 rfl) (fun _ r => r.exa 0 rfl) (m_isC0 l Z a0 hw _ hl) rfl d18_35 (q := 38) rfl (by first | decide | exact Nat.le_of_ble_eq_true rfl) rfl (na := 0) (by decide +kernel) rfl (by first | decide | exact Nat.le_of_ble_eq_true rfl) (W := 0) rfl (by first | decide | exact Nat.le_of_ble_eq_true rfl) (Nat.le_trans (Nat.le_add_right _ _) hkK) (Nat.le_trans (Nat.le_add_right _ _) hnN) (k' := k) (n' := n') rfl rfl ?_
  rintro _ _ ⟨rfl, rfl⟩
  show Go _ _ _ _ _ _ _ _ _ _ [(.int (0 : Int32))]
  refine Go.ifYes C d18_38 (by decide) (q := 54) rfl (XT.i0_eq_t (by decide)) ?_
  refine Go.aloadN C d18_54 rfl rfl rfl ?_
  refine Go.aloadN C d18_55 rfl rfl rfl ?_
  refine Go.pick (M' := (tE t0 .null .null (D 0) (nx 0) (p 0) (s 0) :: tE t1 .null .null (D 1) (nx 1) (p 1) (s 1) :: tE t2 .null .null (D 2) (nx 2) (p 2) (s 2) :: wE w rA sh dm bt sA fA cA tk rc :: aS sA vs :: aF fA fs :: aI cA cs :: aT rA rv :: LS)) 8 [1, 2, 0, 3, 4, 5, 6, 7] (by decide) (by decide) rfl ?_
  refine Go.callP C (y := yN11) (a := w) (as := [(.ref t2)]) (rest := []) (wd hw 81 rfl) (wd hw 82 rfl) (sel_priv (y := yN11) (wd hw 19 rfl) (wd hw 82 rfl) (wd hw 83 rfl) (by first | decide | exact Nat.le_of_ble_eq_true rfl)) (wd hw 83 rfl) (wd hw 84 rfl) (wd hw 20 rfl) (fun _ r => r.exa 3 rfl) (own_fileK l Z a0 hw hZ hI hxR q1 q2 q3 (i := 2) rfl) rfl d18_56 (q := 59) rfl (by first | decide | exact Nat.le_of_ble_eq_true rfl) rfl (na := 1) (by decide +kernel) rfl (by first | decide | exact Nat.le_of_ble_eq_true rfl) (W := 0) rfl (by first | decide | exact Nat.le_of_ble_eq_true rfl) hkK hnN (k' := (k + own_fc ks lN)) (n' := (n' + own_fz zs ks lN)) rfl rfl ?_
  rintro _ _ ⟨rfl, p1, nx1, vs1, fs1, cs1, LS1, B1, rfl, hI1, hY1, hF1⟩
  show Go _ _ _ _ _ _ _ _ _ _ []
  refine Go.aload C d18_59 rfl rfl hxr ?_
  refine Go.astoreN C d18_61 rfl hxr (Ls' := #[.val (.ref w), .val (.int lv), .val (.int dg), .val (nx 2), .val (nx 2)]) (stl rfl (Or.inr ⟨_, rfl, rfl⟩) (XT.cat1 hxr) rfl) ?_
  refine Go.goto C d18_62 (by decide) (q := 24) rfl ?_
  exact hk p1 nx1 vs1 fs1 cs1 LS1 B1 hI1 hY1 hF1
def own_insL (ks : List Nat) : List Nat → List Nat
  | [] => ks
  | l :: r => own_insL (own_ins ks l) r
def own_cc (ks : List Nat) : List Nat → Nat
  | [] => 0
  | l :: r => own_fc ks l + own_cc (own_ins ks l) r
def own_cz (zs : Nat → Nat) (ks : List Nat) : List Nat → Nat
  | [] => 0
  | l :: r => own_fz zs ks l + own_cz zs (own_ins ks l) r
def own_sum (zs : Nat → Nat) (ks : List Nat) : Nat := (ks.map (own_cost zs)).sum
theorem own_cclen (ls : List Nat) : ∀ ks : List Nat, 2 * ks.length + own_cc ks ls = 2 * (own_insL ks ls).length := by
  induction ls with
  | nil => intro ks; rfl
  | cons l r ih =>
    intro ks
    show 2 * ks.length + (own_fc ks l + own_cc (own_ins ks l) r) = 2 * (own_insL (own_ins ks l) r).length
    rw [← ih]
    unfold own_fc own_ins
    split
    · omega
    · rw [List.length_cons]; omega
theorem own_czsum (zs : Nat → Nat) (ls : List Nat) : ∀ ks : List Nat, own_sum zs ks + own_cz zs ks ls = own_sum zs (own_insL ks ls) := by
  induction ls with
  | nil => intro ks; rfl
  | cons l r ih =>
    intro ks
    show own_sum zs ks + (own_fz zs ks l + own_cz zs (own_ins ks l) r) = own_sum zs (own_insL (own_ins ks l) r)
    rw [← ih]
    unfold own_fz own_ins
    split
    · omega
    · have : own_sum zs (l :: ks) = own_cost zs l + own_sum zs ks := by simp [own_sum]
      omega
theorem InvC.congrP {T : Nat → Addr} {sh : Int32} {dm tk : Int64} {n : Nat} {zs : Nat → Nat} {D : Nat → Int64} {p nx p' nx' : Nat → Value} {B : List Bk} {R ks : List Nat} {H : Nat → Nat → Value} {W : Nat → Nat → Int64} (h : InvC T sh dm tk n zs D p nx B R ks H W) (hp : ∀ j ∈ own_fl B, p' j = p j ∧ nx' j = nx j) : InvC T sh dm tk n zs D p' nx' B R ks H W := by
  obtain ⟨h1, h2, h3, h4, h5, h6, h7⟩ := h
  refine ⟨h1, h2, h3, h4, fun b hb => ?_, h6, h7⟩
  obtain ⟨g1, g2, g3, g5, g6⟩ := h5 b hb
  exact ⟨g1, g2, g3, g5.congr fun j hj => hp j (own_fl_mem hb hj), g6⟩
theorem InvC.tick {T : Nat → Addr} {sh : Int32} {dm tk tk' : Int64} {n : Nat} {zs : Nat → Nat} {D : Nat → Int64} {p nx : Nat → Value} {B : List Bk} {R ks : List Nat} {H : Nat → Nat → Value} {W : Nat → Nat → Int64} (h : InvC T sh dm tk n zs D p nx B R ks H W) (hp : ∀ b ∈ B, ∀ i ∈ b.2.2, Pc sh dm tk' (D i) b.1 b.2.1) : InvC T sh dm tk' n zs D p nx B R ks H W := by
  obtain ⟨h1, h2, h3, h4, h5, h6, h7⟩ := h
  refine ⟨h1, h2, h3, h4, fun b hb => ?_, h6, h7⟩
  obtain ⟨g1, g2, g3, g5, g6⟩ := h5 b hb
  exact ⟨g1, g2, g3, g5, hp b hb⟩
section Mvd
variable {t0 t1 t2 w sA fA cA rA : Addr} {sh : Int32} {dm : Int64} {bt rc : Int32} {tk : Int64} {rv : List Value} {D : Nat → Int64} {s : Nat → Int32} {n : Nat} {zs : Nat → Nat} {E : E0} {Q : PQ}
theorem InvK.inv {T : Nat → Addr} {p nx : Nat → Value} {vs fs cs : List Value} {LS : List Ent} {B : List Bk} {R ks : List Nat} (h : InvK T sh dm tk n zs D p nx vs fs cs LS B R ks) : Inv T sh dm tk n zs D p nx vs fs cs LS B R := by
  obtain ⟨sa, fa, H, W, h1, h2, h3, h4, hC⟩ := h
  exact ⟨ks, sa, fa, H, W, h1, h2, h3, h4, hC⟩
theorem InvK.nd {T : Nat → Addr} {p nx : Nat → Value} {vs fs cs : List Value} {LS : List Ent} {B : List Bk} {R ks : List Nat} (h : InvK T sh dm tk n zs D p nx vs fs cs LS B R ks) : (own_fl B ++ R).Nodup := by
  obtain ⟨sa, fa, H, W, h1, h2, h3, h4, hC⟩ := h
  exact hC.nd
theorem InvK.lt3 {T : Nat → Addr} {p nx : Nat → Value} {vs fs cs : List Value} {LS : List Ent} {B : List Bk} {R ks : List Nat} {i : Nat} (h : InvK T sh dm tk n zs D p nx vs fs cs LS B R ks) (hi : i ∈ own_fl B ++ R) : i < 3 := by
  obtain ⟨sa, fa, H, W, h1, h2, h3, h4, hC⟩ := h
  exact hC.lt3 hi
theorem InvK.congrP {T : Nat → Addr} {p nx p' nx' : Nat → Value} {vs fs cs : List Value} {LS : List Ent} {B : List Bk} {R ks : List Nat} (h : InvK T sh dm tk n zs D p nx vs fs cs LS B R ks) (hp : ∀ j ∈ own_fl B, p' j = p j ∧ nx' j = nx j) : InvK T sh dm tk n zs D p' nx' vs fs cs LS B R ks := by
  obtain ⟨sa, fa, H, W, h1, h2, h3, h4, hC⟩ := h
  exact ⟨sa, fa, H, W, h1, h2, h3, h4, hC.congrP hp⟩
def own_lf (s : Nat → Int32) (c : List Nat) : List Nat := c.filter fun x => decide (¬ s x = (1 : Int32))
theorem own_mv24 (l : Launch) (Z : State) (a0 : Array Value) (hw : HW Z a0) (hZ : Zs sh bt n zs) (C : Cx Z yN26 prog_12_method_7_code 5 none E) {lv dg : Int32} {K N : Nat} {Yf ksF : List Nat} {lvf dgf : Nat → Nat}
    (hq : ∀ (p nx : Nat → Value) (vs fs cs : List Value) (LS : List Ent) (B : List Bk) (R : List Nat), InvK (own_t3 t0 t1 t2) sh dm tk n zs D p nx vs fs cs LS B R ksF → (own_fl B).Perm Yf → (∀ j ∈ R, p j = .null ∧ nx j = .null) → Q none (WM t0 t1 t2 w sA fA cA rA sh dm bt rc tk rv D s p nx vs fs cs LS)) :
    ∀ (c : List Nat) (p nx : Nat → Value) (vs fs cs : List Value) (LS : List Ent) (B : List Bk) (R ks : List Nat) (v : Value) (s4 : Slot) (k n' : Nat), InvK (own_t3 t0 t1 t2) sh dm tk n zs D p nx vs fs cs LS B R ks → own_ch (own_t3 t0 t1 t2) nx c v → c.Nodup → (∀ x ∈ c, x ∈ R) → (∀ j ∈ R, j ∉ c → p j = .null ∧ nx j = .null) → (own_lf s c ++ own_fl B).Perm Yf → own_insL ks ((own_lf s c).map lvf) = ksF → k + own_cc ks ((own_lf s c).map lvf) = K → n' + own_cz zs ks ((own_lf s c).map lvf) = N → (∀ x ∈ c, lvf x < n ∧ dgf x < zs (lvf x) ∧ Pc sh dm tk (D x) (lvf x) (dgf x)) → Pl s4 →
    Go l Z { frames := 7, cells := K, slots := N, locals := 150 } E Q (WM t0 t1 t2 w sA fA cA rA sh dm bt rc tk rv D s p nx vs fs cs LS) k n' 24 #[.val (.ref w), .val (.int lv), .val (.int dg), .val v, s4] [] := by
  intro c
  induction c with
  | nil =>
    intro p nx vs fs cs LS B R ks v s4 k n' hI hch hnd hR hfree hY hks hk hn hP p4
    have hv : v = .null := hch
    subst hv
    have hks : ks = ksF := hks
    subst hks
    have hk : k = K := hk
    have hn : n' = N := hn
    refine g_mv0 l Z a0 hw C (by omega) (by omega) ?_
    exact hq p nx vs fs cs LS B R hI hY fun j hj => hfree j hj List.not_mem_nil
  | cons x r ih =>
    intro p nx vs fs cs LS B R ks v s4 k n' hI hch hnd hR hfree hY hks hk hn hP p4
    obtain ⟨hv, hch⟩ := hch
    subst hv
    have hxR := hR x (List.mem_cons_self ..)
    have hx3 : x < 3 := hI.lt3 (List.mem_append_right _ hxR)
    have hnd' := List.nodup_cons.mp hnd
    have hdis : ∀ j ∈ own_fl B, j ≠ x := fun j hj e => (List.nodup_append.mp hI.nd).2.2 j hj x hxR e
    have hrx : ∀ j ∈ r, j ≠ x := fun j hj e => hnd'.1 (e ▸ hj)
    have hxr := hch.isRef
    by_cases hl : s x = 1
    · have hlf : own_lf s (x :: r) = own_lf s r := by simp [own_lf, hl]
      rw [hlf] at hY hks hk hn
      have go := ih (own_upd p x .null) (own_upd nx x .null) vs fs cs LS B R ks (nx x) (.val (nx x)) k n' (hI.congrP fun j hj => ⟨own_upd_n (hdis j hj), own_upd_n (hdis j hj)⟩) (hch.congr fun j hj => own_upd_n (hrx j hj)) hnd'.2 (fun j hj => hR j (List.mem_cons_of_mem _ hj)) (fun j hj hjr => by
        by_cases e : j = x
        · subst e; exact ⟨own_upd_s, own_upd_s⟩
        · rw [own_upd_n e, own_upd_n e]
          exact hfree j hj (by simp [e, hjr])) hY hks hk hn (fun j hj => hP j (List.mem_cons_of_mem _ hj)) (Or.inr ⟨_, rfl, XT.cat1 hxr⟩)
      have hkK : k ≤ K := by omega
      have hnN : n' ≤ N := by omega
      obtain rfl | rfl | rfl : x = 0 ∨ x = 1 ∨ x = 2 := by omega
      · exact g_mvC0 l Z a0 hw C hkK hnN hl hxr p4 go
      · exact g_mvC1 l Z a0 hw C hkK hnN hl hxr p4 go
      · exact g_mvC2 l Z a0 hw C hkK hnN hl hxr p4 go
    · have hlf : own_lf s (x :: r) = x :: own_lf s r := by simp [own_lf, hl]
      rw [hlf] at hY hks hk hn
      obtain ⟨q1, q2, q3⟩ := hP x (List.mem_cons_self ..)
      have hk : k + (own_fc ks (lvf x) + own_cc (own_ins ks (lvf x)) ((own_lf s r).map lvf)) = K := hk
      have hn : n' + (own_fz zs ks (lvf x) + own_cz zs (own_ins ks (lvf x)) ((own_lf s r).map lvf)) = N := hn
      have go := fun (p' nx' : Nat → Value) (vs' fs' cs' : List Value) (LS' : List Ent) (B' : List Bk) (hI' : InvK (own_t3 t0 t1 t2) sh dm tk n zs D p' nx' vs' fs' cs' LS' B' (R.erase x) (own_ins ks (lvf x))) (hp' : (own_fl B').Perm (x :: own_fl B)) (hfr : ∀ j ∈ R, j ≠ x → p' j = p j ∧ nx' j = nx j) => ih p' nx' vs' fs' cs' LS' B' (R.erase x) (own_ins ks (lvf x)) (nx x) (.val (nx x)) (k + own_fc ks (lvf x)) (n' + own_fz zs ks (lvf x)) hI' (hch.congr fun j hj => (hfr j (hR j (List.mem_cons_of_mem _ hj)) (hrx j hj)).2) hnd'.2 (fun j hj => (List.mem_erase_of_ne (hrx j hj)).mpr (hR j (List.mem_cons_of_mem _ hj))) (fun j hj hjr => by
        have hne : j ≠ x := fun e => by
          subst e
          exact ((List.nodup_append.mp hI.nd).2.1.mem_erase_iff.mp hj).1 rfl
        have hjR := List.mem_of_mem_erase hj
        rw [(hfr j hjR hne).1, (hfr j hjR hne).2]
        exact hfree j hjR (by simp [hne, hjr])) (by
        refine List.Perm.trans ?_ hY
        refine (hp'.append_left _).trans ?_
        exact List.perm_middle) hks (by omega) (by omega) (fun j hj => hP j (List.mem_cons_of_mem _ hj)) (Or.inr ⟨_, rfl, XT.cat1 hxr⟩)
      have hkK : k + own_fc ks (lvf x) ≤ K := by omega
      have hnN : n' + own_fz zs ks (lvf x) ≤ N := by omega
      obtain rfl | rfl | rfl : x = 0 ∨ x = 1 ∨ x = 2 := by omega
      · exact g_mvF0 l Z a0 hw C hkK hnN hZ hI hxR q1 q2 q3 hl hxr p4 go
      · exact g_mvF1 l Z a0 hw C hkK hnN hZ hI hxR q1 q2 q3 hl hxr p4 go
      · exact g_mvF2 l Z a0 hw C hkK hnN hZ hI hxR q1 q2 q3 hl hxr p4 go
end Mvd
theorem pn_18 : plainFor yN26 = true := by first | (apply plainFor_of_name; simp [plainName, overriddenIn]; done) | decide +kernel
theorem own_Lkch {T : Nat → Addr} {p nx : Nat → Value} {a : Nat} {r : List Nat} (h : Lk T p nx (a :: r)) : own_ch T nx (a :: r) (.ref (T a)) := by
  match r, h with
  | [], h => exact ⟨rfl, h.2⟩
  | [b], h => exact ⟨rfl, h.2.1, h.2.2.2⟩
  | [b, c], h => exact ⟨rfl, h.2.1, h.2.2.2.1, h.2.2.2.2.2⟩
section Mvd2
variable {t0 t1 t2 w sA fA cA rA : Addr} {sh : Int32} {dm : Int64} {bt rc : Int32} {tk tk0 : Int64} {rv : List Value} {D : Nat → Int64} {s : Nat → Int32} {p nx : Nat → Value} {vs fs cs : List Value} {LS : List Ent} {n : Nat} {zs : Nat → Nat} {B : List Bk} {R ks : List Nat}
theorem own_mvd (l : Launch) (Z : State) (a0 : Array Value) (hw : HW Z a0) (hZ : Zs sh bt n zs) (hI : InvK (own_t3 t0 t1 t2) sh dm tk0 n zs D p nx vs fs cs LS B R ks) {lN d : Nat} {c : List Nat} (hb : (lN, d, c) ∈ B) {lvf dgf : Nat → Nat} (hoth : ∀ b ∈ B.erase (lN, d, c), ∀ i ∈ b.2.2, Pc sh dm tk (D i) b.1 b.2.1) (hP : ∀ x ∈ c, lvf x < n ∧ dgf x < zs (lvf x) ∧ Pc sh dm tk (D x) (lvf x) (dgf x)) (hfree : ∀ j ∈ R, p j = .null ∧ nx j = .null) :
    Met l Z yN26 prog_12_method_7_code 5 none { frames := 7, cells := own_cc ks ((own_lf s c).map lvf), slots := own_cz zs ks ((own_lf s c).map lvf), locals := 150 } #[.ref w, .int (Int32.ofNat lN), .int (Int32.ofNat d)] (WM t0 t1 t2 w sA fA cA rA sh dm bt rc tk rv D s p nx vs fs cs LS)
      (fun r M' => r = none ∧ ∃ p' nx' vs' fs' cs' LS' B' R', M' = WM t0 t1 t2 w sA fA cA rA sh dm bt rc tk rv D s p' nx' vs' fs' cs' LS' ∧ InvK (own_t3 t0 t1 t2) sh dm tk n zs D p' nx' vs' fs' cs' LS' B' R' (own_insL ks ((own_lf s c).map lvf)) ∧ (own_fl B').Perm (own_lf s c ++ own_fl (B.erase (lN, d, c))) ∧ ∀ j ∈ R', p' j = .null ∧ nx' j = .null) := by
  refine Met.of_go pn_18 (Ls := #[.val (.ref w), .val (.int (Int32.ofNat lN)), .val (.int (Int32.ofNat d)), .unset, .unset]) (fun m => rfl) ?_
  intro E C
  obtain ⟨sa, fa, H, W, rfl, rfl, rfl, rfl, hC⟩ := hI
  have hZ' := hZ
  obtain ⟨hn63, hsh, hzs⟩ := hZ
  obtain ⟨hk, hd, ⟨a, r, hcr, hHa⟩, hL, hPc⟩ := hC.2.2.2.2.1 _ hb
  have hHa : H lN d = .ref (own_t3 t0 t1 t2 a) := hHa
  have hcr : c = a :: r := hcr
  have hk : lN ∈ ks := hk
  have hd : d < zs lN := hd
  have hL : Lk (own_t3 t0 t1 t2) p nx c := hL
  subst hcr
  have hl : lN < n := hC.2.1 lN hk
  have hz := hzs lN hl
  have hzk : ∀ l ∈ ks, zs l ≤ 256 := fun l hl => (hzs l (hC.2.1 l hl)).2
  have hd31 : d < 2147483648 := by omega
  have hl31 : lN < 2147483648 := by omega
  have e1 : (own_rm n (own_rf ks sa))[(Int32.ofNat lN).toNatClampNeg]? = some (.ref (sa lN)) := by rw [own_cl hl31, own_rm_get hl, own_rf, if_pos hk]
  have e2 : (own_rm n (own_rf ks fa))[(Int32.ofNat lN).toNatClampNeg]? = some (.ref (fa lN)) := by rw [own_cl hl31, own_rm_get hl, own_rf, if_pos hk]
  have e3 : (own_rm n (own_cn B))[(Int32.ofNat lN).toNatClampNeg]? = some (.int (Int32.ofNat (own_ct B lN))) := by rw [own_cl hl31, own_rm_get hl]; rfl
  have e4 : (own_rm ((zs lN + 63) / 64) fun w => .long (W lN w))[(Int32.ofNat (d / 64)).toNatClampNeg]? = some (.long (W lN (d / 64))) := by rw [own_cl (by omega), own_rm_get (by omega)]
  have e5 : (own_rm (zs lN) (H lN))[(Int32.ofNat d).toNatClampNeg]? = some (.ref (own_t3 t0 t1 t2 a)) := by rw [own_cl hd31, own_rm_get hd, hHa]
  have hx := (hC.del (p' := p) (nx' := nx) hzk hb (fun j _ => ⟨rfl, rfl⟩)).tick hoth
  have hndc : (a :: r).Nodup := (List.nodup_append.mp ((own_fl_erase hb).nodup_iff.mp (List.nodup_append.mp hC.nd).1)).1
  refine Go.perm (own_pa (U := List.map (own_tc (own_t3 t0 t1 t2) D s p nx) [0, 1, 2]) (Xs := []) (X := List.map (own_tc (own_t3 t0 t1 t2) D s p nx) [0, 1, 2]) (List.Perm.refl _) (own_spk (f := own_ac sa zs H) (g := own_ac sa zs H) hC.1 hk rfl (fun _ _ => rfl)) (own_spk (f := own_bc fa zs W) (g := own_bc fa zs W) hC.1 hk rfl (fun _ _ => rfl))) ?_
  refine g_mvP l Z a0 hw C (own_nn hl31) e1 e2 e3 (own_nn hd31) (own_us6 hd31) (own_nn (by omega)) e4 e5 ?_
  refine Go.perm (own_pa (U := List.map (own_tc (own_t3 t0 t1 t2) D s p nx) [0, 1, 2]) (Xs := []) (X := List.map (own_tc (own_t3 t0 t1 t2) D s p nx) [0, 1, 2]) (List.Perm.refl _) (own_spk (g := own_ac sa zs (own_upd2 H lN d .null)) hC.1 hk (own_acS hd31) (fun j hj => own_acN hj)) (own_spk (g := own_bc fa zs (own_upd2 W lN (d / 64) _)) hC.1 hk (own_bcS (by omega)) (fun j hj => own_bcN hj))).symm ?_
  refine own_mv24 l Z a0 hw hZ' C (Yf := own_lf s (a :: r) ++ own_fl (B.erase (lN, d, a :: r))) (ksF := own_insL ks ((own_lf s (a :: r)).map lvf)) (lvf := lvf) (dgf := dgf) (fun p' nx' vs' fs' cs' LS' B' R' h1 h2 h3 => ⟨rfl, p', nx', vs', fs', cs', LS', B', R', rfl, h1, h2, h3⟩) (a :: r) p nx _ _ _ _ (B.erase (lN, d, a :: r)) (a :: r ++ R) ks _ .unset 0 0 ⟨sa, fa, _, _, rfl, rfl, ?_, rfl, hx⟩ (own_Lkch hL) hndc (fun x hx => List.mem_append_left _ hx) (fun j hj hjn => hfree j ((List.mem_append.mp hj).resolve_left hjn)) (List.Perm.refl _) rfl (Nat.zero_add _) (Nat.zero_add _) hP (Or.inl rfl)
  rw [own_cl hl31]; exact own_cs_del hb
end Mvd2
theorem own_lowU {B : List Bk} {a b : Nat} (ha : own_isLow B a) (hb : own_isLow B b) : a = b := by
  obtain ⟨⟨x, hx, ex⟩, h1⟩ := ha
  obtain ⟨⟨y, hy, ey⟩, h2⟩ := hb
  have := h1 y hy
  have := h2 x hx
  omega
section Pl1
variable {t0 t1 t2 w sA fA cA rA : Addr} {sh : Int32} {dm : Int64} {bt rc : Int32} {tk tk' : Int64} {rv : List Value} {D : Nat → Int64} {s : Nat → Int32} {p nx : Nat → Value} {vs fs cs : List Value} {LS : List Ent} {n : Nat} {zs : Nat → Nat} {B : List Bk} {R : List Nat}
theorem own_low1 (l : Launch) (Z : State) (a0 : Array Value) (hw : HW Z a0) (hn : n ≤ 63) (hI : Inv (own_t3 t0 t1 t2) sh dm tk' n zs D p nx vs fs cs LS B R) {lN : Nat} (hL : own_isLow B lN) :
    Met l Z yN9 prog_12_method_14_code 2 (some .int) { frames := 0, cells := 0, slots := 0, locals := 0 } #[.ref w] (WM t0 t1 t2 w sA fA cA rA sh dm bt rc tk rv D s p nx vs fs cs LS) (fun r M' => r = some (.int (Int32.ofNat lN)) ∧ M' = WM t0 t1 t2 w sA fA cA rA sh dm bt rc tk rv D s p nx vs fs cs LS) := by
  refine Met.mono (m_lowB l Z a0 hw hn hI ⟨_, hL.1.choose_spec.1⟩) ?_
  rintro v M' ⟨⟨l', h1, h2, -⟩, h3⟩
  rw [own_lowU h2 hL] at h1
  exact ⟨h1, h3⟩
theorem own_ffs1 (l : Launch) (Z : State) (a0 : Array Value) (hw : HW Z a0) (hZ : Zs sh bt n zs) (hI : Inv (own_t3 t0 t1 t2) sh dm tk' n zs D p nx vs fs cs LS B R) {lev d w0 : Nat} {c : List Nat} (hb : (lev, d, c) ∈ B) (hmin : ∀ b ∈ B, b.1 = lev → d ≤ b.2.1) (hdg : own_dg sh dm tk (Int32.ofNat lev) = Int32.ofNat w0) (hw : w0 ≤ d) (hw256 : w0 < 256) :
    Met l Z yN15 prog_12_method_15_code 4 (some .int) { frames := 2, cells := 0, slots := 0, locals := 50 } #[.ref w, .int (Int32.ofNat lev)] (WM t0 t1 t2 w sA fA cA rA sh dm bt rc tk rv D s p nx vs fs cs LS) (fun r M' => r = some (.int (Int32.ofNat d)) ∧ M' = WM t0 t1 t2 w sA fA cA rA sh dm bt rc tk rv D s p nx vs fs cs LS) := by
  have hI' := hI
  obtain ⟨ks, sa, fa, H, W, -, hfs, -, -, hC⟩ := hI'
  have hk : lev ∈ ks := (hC.2.2.2.2.1 _ hb).1
  have hlev : lev < n := hC.2.1 _ hk
  have hn := hZ.1
  refine Met.mono (m_ffs l Z a0 ‹HW Z a0› hZ hI hlev (f3 := fa lev) (by rw [own_cl (by omega), hfs, own_rm_get hlev, own_rf, if_pos hk]) hdg (w0n := w0 / 64) (own_us6 (by omega)) (by omega) ⟨_, hb, rfl⟩ (fun b hB e => Nat.div_le_div_right (Nat.le_trans hw (hmin b hB e)))) ?_
  rintro v M' ⟨⟨d', c', h1, h2, h4⟩, h3⟩
  have e : d' = d := Nat.le_antisymm (h4 _ hb rfl) (hmin _ h2 rfl)
  rw [e] at h1
  exact ⟨h1, h3⟩
end Pl1
theorem d19_0 : decode prog_12_method_5_code 0 = .ok (.aload_n 0, 1) := by decide +kernel
theorem d19_1 : decode prog_12_method_5_code 1 = .ok (.invokevirtual 69, 3) := by decide +kernel
theorem d19_4 : decode prog_12_method_5_code 4 = .ok (.istore_n 3, 1) := by decide +kernel
theorem d19_5 : decode prog_12_method_5_code 5 = .ok (.iload_n 3, 1) := by decide +kernel
theorem d19_6 : decode prog_12_method_5_code 6 = .ok (.ifCond .ge 7, 3) := by decide +kernel
theorem d19_13 : decode prog_12_method_5_code 13 = .ok (.aload_n 0, 1) := by decide +kernel
theorem d19_14 : decode prog_12_method_5_code 14 = .ok (.iload_n 3, 1) := by decide +kernel
theorem d19_15 : decode prog_12_method_5_code 15 = .ok (.invokevirtual 75, 3) := by decide +kernel
theorem d19_18 : decode prog_12_method_5_code 18 = .ok (.istore 4, 2) := by decide +kernel
theorem d19_20 : decode prog_12_method_5_code 20 = .ok (.iload_n 3, 1) := by decide +kernel
theorem d19_21 : decode prog_12_method_5_code 21 = .ok (.ifCond .ge 9, 3) := by decide +kernel
theorem d19_30 : decode prog_12_method_5_code 30 = .ok (.aload_n 0, 1) := by decide +kernel
theorem d19_31 : decode prog_12_method_5_code 31 = .ok (.iload_n 3, 1) := by decide +kernel
theorem d19_32 : decode prog_12_method_5_code 32 = .ok (.iload 4, 2) := by decide +kernel
theorem d19_34 : decode prog_12_method_5_code 34 = .ok (.invokevirtual 79, 3) := by decide +kernel
theorem d19_37 : decode prog_12_method_5_code 37 = .ok (.lstore 5, 2) := by decide +kernel
theorem g_plHf (l : Launch) (Z : State) (a0 : Array Value) (hw : HW Z a0) {E : E0} {Q : PQ} {t0 t1 t2 : Addr} {w sA fA cA rA : Addr} {sh : Int32} {dm : Int64} {bt rc : Int32} {tk : Int64} {rv : List Value} {D : Nat → Int64} {s : Nat → Int32} {p nx : Nat → Value} {vs fs cs : List Value} {LS : List Ent} {k n' : Nat} {tg : Int64} {lN d : Nat} {s3 s4 s7 : Slot} {nt : Int64} {n : Nat} {zs : Nat → Nat} {B : List Bk} {R : List Nat} {tk' : Int64} {c : List Nat} {w0 : Nat} (C : Cx Z yN25 prog_12_method_5_code 8 (some (.object "com/example/charkha/charkha/Timeout")) E) (hkK : k ≤ 126) (hnN : n' ≤ 2080) (hn : n ≤ 63) (hZ : Zs sh bt n zs) (hI : Inv (own_t3 t0 t1 t2) sh dm tk' n zs D p nx vs fs cs LS B R) (hL : own_isLow B lN) (hb : (lN, d, c) ∈ B) (hmin : ∀ b ∈ B, b.1 = lN → d ≤ b.2.1) (hdw : own_dg sh dm tk (Int32.ofNat lN) = Int32.ofNat w0) (hwd : w0 ≤ d) (hw256 : w0 < 256) (hge : ¬ Int32.ofNat lN < 0) (hnt : own_stk sh tk (Int32.ofNat lN) (Int32.ofNat d) = nt) (p3 : Pl s3) (p4 : Pl s4) (hk : Go l Z { frames := 8, cells := 126, slots := 2080, locals := 180 } E Q (tE t0 .null .null (D 0) (nx 0) (p 0) (s 0) :: tE t1 .null .null (D 1) (nx 1) (p 1) (s 1) :: tE t2 .null .null (D 2) (nx 2) (p 2) (s 2) :: wE w rA sh dm bt sA fA cA tk rc :: aS sA vs :: aF fA fs :: aI cA cs :: aT rA rv :: LS) k n' 39 #[.val (.ref w), .val (.long tg), .second, .val (.int (Int32.ofNat lN)), .val (.int (Int32.ofNat d)), .val (.long (own_stk sh tk (Int32.ofNat lN) (Int32.ofNat d))), .second, s7] []) :
    Go l Z { frames := 8, cells := 126, slots := 2080, locals := 180 } E Q (tE t0 .null .null (D 0) (nx 0) (p 0) (s 0) :: tE t1 .null .null (D 1) (nx 1) (p 1) (s 1) :: tE t2 .null .null (D 2) (nx 2) (p 2) (s 2) :: wE w rA sh dm bt sA fA cA tk rc :: aS sA vs :: aF fA fs :: aI cA cs :: aT rA rv :: LS) k n' 0 #[.val (.ref w), .val (.long tg), .second, s3, s4, .unset, .unset, s7] [] := by
  refine Go.aloadN C d19_0 rfl rfl rfl ?_
  refine Go.callP C (y := yN9) (a := w) (as := []) (rest := []) (wd hw 66 rfl) (wd hw 67 rfl) (sel_priv (y := yN9) (wd hw 19 rfl) (wd hw 67 rfl) (wd hw 68 rfl) (by first | decide | exact Nat.le_of_ble_eq_true rfl)) (wd hw 68 rfl) (wd hw 69 rfl) (wd hw 20 rfl) (fun _ r => r.exa 3 rfl) (own_low1 l Z a0 hw hn hI hL) rfl d19_1 (q := 4) rfl (by first | decide | exact Nat.le_of_ble_eq_true rfl) rfl (na := 0) (by decide +kernel) rfl (by first | decide | exact Nat.le_of_ble_eq_true rfl) (W := 0) rfl (by first | decide | exact Nat.le_of_ble_eq_true rfl) hkK hnN (k' := k) (n' := n') rfl rfl ?_
  rintro _ _ ⟨rfl, rfl⟩
  show Go _ _ _ _ _ _ _ _ _ _ [(.int (Int32.ofNat lN))]
  refine Go.istoreN C d19_4 rfl (Ls' := #[.val (.ref w), .val (.long tg), .second, .val (.int (Int32.ofNat lN)), s4, .unset, .unset, s7]) (stl rfl p3 rfl rfl) ?_
  refine Go.iloadN C d19_5 rfl rfl ?_
  refine Go.ifYes C d19_6 (by decide) (q := 13) rfl (XT.i0_ge_t hge) ?_
  refine Go.aloadN C d19_13 rfl rfl rfl ?_
  refine Go.iloadN C d19_14 rfl rfl ?_
  refine Go.callP C (y := yN15) (a := w) (as := [(.int (Int32.ofNat lN))]) (rest := []) (wd hw 104 rfl) (wd hw 105 rfl) (sel_priv (y := yN15) (wd hw 19 rfl) (wd hw 105 rfl) (wd hw 106 rfl) (by first | decide | exact Nat.le_of_ble_eq_true rfl)) (wd hw 106 rfl) (wd hw 107 rfl) (wd hw 20 rfl) (fun _ r => r.exa 3 rfl) (own_ffs1 l Z a0 hw hZ hI hb hmin hdw hwd hw256) rfl d19_15 (q := 18) rfl (by first | decide | exact Nat.le_of_ble_eq_true rfl) rfl (na := 1) (by decide +kernel) rfl (by first | decide | exact Nat.le_of_ble_eq_true rfl) (W := 0) rfl (by first | decide | exact Nat.le_of_ble_eq_true rfl) hkK hnN (k' := k) (n' := n') rfl rfl ?_
  rintro _ _ ⟨rfl, rfl⟩
  show Go _ _ _ _ _ _ _ _ _ _ [(.int (Int32.ofNat d))]
  refine Go.istore C d19_18 rfl (Ls' := #[.val (.ref w), .val (.long tg), .second, .val (.int (Int32.ofNat lN)), .val (.int (Int32.ofNat d)), .unset, .unset, s7]) (stl rfl p4 rfl rfl) ?_
  refine Go.iloadN C d19_20 rfl rfl ?_
  refine Go.ifYes C d19_21 (by decide) (q := 30) rfl (XT.i0_ge_t hge) ?_
  refine Go.aloadN C d19_30 rfl rfl rfl ?_
  refine Go.iloadN C d19_31 rfl rfl ?_
  refine Go.iload C d19_32 rfl rfl ?_
  refine Go.pick (M' := (wE w rA sh dm bt sA fA cA tk rc :: tE t0 .null .null (D 0) (nx 0) (p 0) (s 0) :: tE t1 .null .null (D 1) (nx 1) (p 1) (s 1) :: tE t2 .null .null (D 2) (nx 2) (p 2) (s 2) :: aS sA vs :: aF fA fs :: aI cA cs :: aT rA rv :: LS)) 8 [3, 0, 1, 2, 4, 5, 6, 7] (by decide) (by decide) rfl ?_
  refine Go.callP C (y := yN18) (a := w) (as := [(.int (Int32.ofNat lN)), (.int (Int32.ofNat d))]) (rest := []) (wd hw 114 rfl) (wd hw 115 rfl) (sel_priv (y := yN18) (wd hw 19 rfl) (wd hw 115 rfl) (wd hw 116 rfl) (by first | decide | exact Nat.le_of_ble_eq_true rfl)) (wd hw 116 rfl) (wd hw 117 rfl) (wd hw 20 rfl) (fun _ r => r.exa 0 rfl) (m_stk l Z a0 hw _) rfl d19_34 (q := 37) rfl (by first | decide | exact Nat.le_of_ble_eq_true rfl) rfl (na := 2) (by decide +kernel) rfl (by first | decide | exact Nat.le_of_ble_eq_true rfl) (W := 0) rfl (by first | decide | exact Nat.le_of_ble_eq_true rfl) hkK hnN (k' := k) (n' := n') rfl rfl ?_
  rintro _ _ ⟨rfl, rfl⟩
  show Go _ _ _ _ _ _ _ _ _ _ [(.long (own_stk sh tk (Int32.ofNat lN) (Int32.ofNat d)))]
  refine Go.lstore C d19_37 rfl (Ls' := #[.val (.ref w), .val (.long tg), .second, .val (.int (Int32.ofNat lN)), .val (.int (Int32.ofNat d)), .val (.long (own_stk sh tk (Int32.ofNat lN) (Int32.ofNat d))), .second, s7]) rfl ?_
  refine Go.pick (M' := (tE t0 .null .null (D 0) (nx 0) (p 0) (s 0) :: tE t1 .null .null (D 1) (nx 1) (p 1) (s 1) :: tE t2 .null .null (D 2) (nx 2) (p 2) (s 2) :: wE w rA sh dm bt sA fA cA tk rc :: aS sA vs :: aF fA fs :: aI cA cs :: aT rA rv :: LS)) 8 [1, 2, 3, 0, 4, 5, 6, 7] (by decide) (by decide) rfl ?_
  exact hk
theorem g_plHs (l : Launch) (Z : State) (a0 : Array Value) (hw : HW Z a0) {E : E0} {Q : PQ} {t0 t1 t2 : Addr} {w sA fA cA rA : Addr} {sh : Int32} {dm : Int64} {bt rc : Int32} {tk : Int64} {rv : List Value} {D : Nat → Int64} {s : Nat → Int32} {p nx : Nat → Value} {vs fs cs : List Value} {LS : List Ent} {k n' : Nat} {tg : Int64} {lN d : Nat} {s3 s4 s7 : Slot} {y5 nt : Int64} {n : Nat} {zs : Nat → Nat} {B : List Bk} {R : List Nat} {tk' : Int64} {c : List Nat} {w0 : Nat} (C : Cx Z yN25 prog_12_method_5_code 8 (some (.object "com/example/charkha/charkha/Timeout")) E) (hkK : k ≤ 126) (hnN : n' ≤ 2080) (hn : n ≤ 63) (hZ : Zs sh bt n zs) (hI : Inv (own_t3 t0 t1 t2) sh dm tk' n zs D p nx vs fs cs LS B R) (hL : own_isLow B lN) (hb : (lN, d, c) ∈ B) (hmin : ∀ b ∈ B, b.1 = lN → d ≤ b.2.1) (hdw : own_dg sh dm tk (Int32.ofNat lN) = Int32.ofNat w0) (hwd : w0 ≤ d) (hw256 : w0 < 256) (hge : ¬ Int32.ofNat lN < 0) (hnt : own_stk sh tk (Int32.ofNat lN) (Int32.ofNat d) = nt) (p3 : Pl s3) (p4 : Pl s4) (hk : Go l Z { frames := 8, cells := 126, slots := 2080, locals := 180 } E Q (tE t0 .null .null (D 0) (nx 0) (p 0) (s 0) :: tE t1 .null .null (D 1) (nx 1) (p 1) (s 1) :: tE t2 .null .null (D 2) (nx 2) (p 2) (s 2) :: wE w rA sh dm bt sA fA cA tk rc :: aS sA vs :: aF fA fs :: aI cA cs :: aT rA rv :: LS) k n' 39 #[.val (.ref w), .val (.long tg), .second, .val (.int (Int32.ofNat lN)), .val (.int (Int32.ofNat d)), .val (.long (own_stk sh tk (Int32.ofNat lN) (Int32.ofNat d))), .second, s7] []) :
    Go l Z { frames := 8, cells := 126, slots := 2080, locals := 180 } E Q (tE t0 .null .null (D 0) (nx 0) (p 0) (s 0) :: tE t1 .null .null (D 1) (nx 1) (p 1) (s 1) :: tE t2 .null .null (D 2) (nx 2) (p 2) (s 2) :: wE w rA sh dm bt sA fA cA tk rc :: aS sA vs :: aF fA fs :: aI cA cs :: aT rA rv :: LS) k n' 0 #[.val (.ref w), .val (.long tg), .second, s3, s4, .val (.long y5), .second, s7] [] := by
  refine Go.aloadN C d19_0 rfl rfl rfl ?_
  refine Go.callP C (y := yN9) (a := w) (as := []) (rest := []) (wd hw 66 rfl) (wd hw 67 rfl) (sel_priv (y := yN9) (wd hw 19 rfl) (wd hw 67 rfl) (wd hw 68 rfl) (by first | decide | exact Nat.le_of_ble_eq_true rfl)) (wd hw 68 rfl) (wd hw 69 rfl) (wd hw 20 rfl) (fun _ r => r.exa 3 rfl) (own_low1 l Z a0 hw hn hI hL) rfl d19_1 (q := 4) rfl (by first | decide | exact Nat.le_of_ble_eq_true rfl) rfl (na := 0) (by decide +kernel) rfl (by first | decide | exact Nat.le_of_ble_eq_true rfl) (W := 0) rfl (by first | decide | exact Nat.le_of_ble_eq_true rfl) hkK hnN (k' := k) (n' := n') rfl rfl ?_
  rintro _ _ ⟨rfl, rfl⟩
  show Go _ _ _ _ _ _ _ _ _ _ [(.int (Int32.ofNat lN))]
  refine Go.istoreN C d19_4 rfl (Ls' := #[.val (.ref w), .val (.long tg), .second, .val (.int (Int32.ofNat lN)), s4, .val (.long y5), .second, s7]) (stl rfl p3 rfl rfl) ?_
  refine Go.iloadN C d19_5 rfl rfl ?_
  refine Go.ifYes C d19_6 (by decide) (q := 13) rfl (XT.i0_ge_t hge) ?_
  refine Go.aloadN C d19_13 rfl rfl rfl ?_
  refine Go.iloadN C d19_14 rfl rfl ?_
  refine Go.callP C (y := yN15) (a := w) (as := [(.int (Int32.ofNat lN))]) (rest := []) (wd hw 104 rfl) (wd hw 105 rfl) (sel_priv (y := yN15) (wd hw 19 rfl) (wd hw 105 rfl) (wd hw 106 rfl) (by first | decide | exact Nat.le_of_ble_eq_true rfl)) (wd hw 106 rfl) (wd hw 107 rfl) (wd hw 20 rfl) (fun _ r => r.exa 3 rfl) (own_ffs1 l Z a0 hw hZ hI hb hmin hdw hwd hw256) rfl d19_15 (q := 18) rfl (by first | decide | exact Nat.le_of_ble_eq_true rfl) rfl (na := 1) (by decide +kernel) rfl (by first | decide | exact Nat.le_of_ble_eq_true rfl) (W := 0) rfl (by first | decide | exact Nat.le_of_ble_eq_true rfl) hkK hnN (k' := k) (n' := n') rfl rfl ?_
  rintro _ _ ⟨rfl, rfl⟩
  show Go _ _ _ _ _ _ _ _ _ _ [(.int (Int32.ofNat d))]
  refine Go.istore C d19_18 rfl (Ls' := #[.val (.ref w), .val (.long tg), .second, .val (.int (Int32.ofNat lN)), .val (.int (Int32.ofNat d)), .val (.long y5), .second, s7]) (stl rfl p4 rfl rfl) ?_
  refine Go.iloadN C d19_20 rfl rfl ?_
  refine Go.ifYes C d19_21 (by decide) (q := 30) rfl (XT.i0_ge_t hge) ?_
  refine Go.aloadN C d19_30 rfl rfl rfl ?_
  refine Go.iloadN C d19_31 rfl rfl ?_
  refine Go.iload C d19_32 rfl rfl ?_
  refine Go.pick (M' := (wE w rA sh dm bt sA fA cA tk rc :: tE t0 .null .null (D 0) (nx 0) (p 0) (s 0) :: tE t1 .null .null (D 1) (nx 1) (p 1) (s 1) :: tE t2 .null .null (D 2) (nx 2) (p 2) (s 2) :: aS sA vs :: aF fA fs :: aI cA cs :: aT rA rv :: LS)) 8 [3, 0, 1, 2, 4, 5, 6, 7] (by decide) (by decide) rfl ?_
  refine Go.callP C (y := yN18) (a := w) (as := [(.int (Int32.ofNat lN)), (.int (Int32.ofNat d))]) (rest := []) (wd hw 114 rfl) (wd hw 115 rfl) (sel_priv (y := yN18) (wd hw 19 rfl) (wd hw 115 rfl) (wd hw 116 rfl) (by first | decide | exact Nat.le_of_ble_eq_true rfl)) (wd hw 116 rfl) (wd hw 117 rfl) (wd hw 20 rfl) (fun _ r => r.exa 0 rfl) (m_stk l Z a0 hw _) rfl d19_34 (q := 37) rfl (by first | decide | exact Nat.le_of_ble_eq_true rfl) rfl (na := 2) (by decide +kernel) rfl (by first | decide | exact Nat.le_of_ble_eq_true rfl) (W := 0) rfl (by first | decide | exact Nat.le_of_ble_eq_true rfl) hkK hnN (k' := k) (n' := n') rfl rfl ?_
  rintro _ _ ⟨rfl, rfl⟩
  show Go _ _ _ _ _ _ _ _ _ _ [(.long (own_stk sh tk (Int32.ofNat lN) (Int32.ofNat d)))]
  refine Go.lstore C d19_37 rfl (Ls' := #[.val (.ref w), .val (.long tg), .second, .val (.int (Int32.ofNat lN)), .val (.int (Int32.ofNat d)), .val (.long (own_stk sh tk (Int32.ofNat lN) (Int32.ofNat d))), .second, s7]) rfl ?_
  refine Go.pick (M' := (tE t0 .null .null (D 0) (nx 0) (p 0) (s 0) :: tE t1 .null .null (D 1) (nx 1) (p 1) (s 1) :: tE t2 .null .null (D 2) (nx 2) (p 2) (s 2) :: wE w rA sh dm bt sA fA cA tk rc :: aS sA vs :: aF fA fs :: aI cA cs :: aT rA rv :: LS)) 8 [1, 2, 3, 0, 4, 5, 6, 7] (by decide) (by decide) rfl ?_
  exact hk
theorem d19_39 : decode prog_12_method_5_code 39 = .ok (.lload 5, 2) := by decide +kernel
theorem d19_41 : decode prog_12_method_5_code 41 = .ok (.lload_n 1, 1) := by decide +kernel
theorem d19_42 : decode prog_12_method_5_code 42 = .ok (.lcmp, 1) := by decide +kernel
theorem d19_43 : decode prog_12_method_5_code 43 = .ok (.ifCond .le 17, 3) := by decide +kernel
theorem d19_46 : decode prog_12_method_5_code 46 = .ok (.aload_n 0, 1) := by decide +kernel
theorem d19_47 : decode prog_12_method_5_code 47 = .ok (.aload_n 0, 1) := by decide +kernel
theorem d19_48 : decode prog_12_method_5_code 48 = .ok (.getfield 47, 3) := by decide +kernel
theorem d19_51 : decode prog_12_method_5_code 51 = .ok (.lload_n 1, 1) := by decide +kernel
theorem d19_52 : decode prog_12_method_5_code 52 = .ok (.invokestatic 50, 3) := by decide +kernel
theorem d19_55 : decode prog_12_method_5_code 55 = .ok (.putfield 47, 3) := by decide +kernel
theorem d19_58 : decode prog_12_method_5_code 58 = .ok (.aconst_null, 1) := by decide +kernel
theorem d19_59 : decode prog_12_method_5_code 59 = .ok (.areturn, 1) := by decide +kernel
theorem g_plA (l : Launch) (Z : State) (a0 : Array Value) (hw : HW Z a0) {E : E0} {Q : PQ} {t0 t1 t2 : Addr} {w sA fA cA rA : Addr} {sh : Int32} {dm : Int64} {bt rc : Int32} {tk : Int64} {rv : List Value} {D : Nat → Int64} {s : Nat → Int32} {p nx : Nat → Value} {vs fs cs : List Value} {LS : List Ent} {k n' : Nat} {tg : Int64} {lN d : Nat} {s7 : Slot} {nt : Int64} (C : Cx Z yN25 prog_12_method_5_code 8 (some (.object "com/example/charkha/charkha/Timeout")) E) (hkK : k ≤ 126) (hnN : n' ≤ 2080) (hlt : tg < nt) (hq : Q (some .null) (tE t0 .null .null (D 0) (nx 0) (p 0) (s 0) :: tE t1 .null .null (D 1) (nx 1) (p 1) (s 1) :: tE t2 .null .null (D 2) (nx 2) (p 2) (s 2) :: wE w rA sh dm bt sA fA cA (own_mx tk tg) rc :: aS sA vs :: aF fA fs :: aI cA cs :: aT rA rv :: LS)) :
    Go l Z { frames := 8, cells := 126, slots := 2080, locals := 180 } E Q (tE t0 .null .null (D 0) (nx 0) (p 0) (s 0) :: tE t1 .null .null (D 1) (nx 1) (p 1) (s 1) :: tE t2 .null .null (D 2) (nx 2) (p 2) (s 2) :: wE w rA sh dm bt sA fA cA tk rc :: aS sA vs :: aF fA fs :: aI cA cs :: aT rA rv :: LS) k n' 39 #[.val (.ref w), .val (.long tg), .second, .val (.int (Int32.ofNat lN)), .val (.int (Int32.ofNat d)), .val (.long nt), .second, s7] [] := by
  refine Go.lload C d19_39 rfl rfl ?_
  refine Go.lloadN C d19_41 rfl rfl ?_
  refine Go.lcmp C d19_42 rfl ?_
  refine Go.ifNo C d19_43 (q := 46) rfl (XT.ll_le_f hlt) ?_
  refine Go.aloadN C d19_46 rfl rfl rfl ?_
  refine Go.aloadN C d19_47 rfl rfl rfl ?_
  refine Go.gf C (wd hw 76 rfl) 3 7 rfl rfl d19_48 rfl ?_
  refine Go.lloadN C d19_51 rfl rfl ?_
  refine Go.callS C (y := yN1) (as := [(.long tk), (.long tg)]) (rest := [(.ref w)]) (wd hw 78 rfl) (wd hw 2 rfl) (wd hw 3 rfl) (wd hw 4 rfl) (m_maxJ l Z a0 hw _) rfl d19_52 (q := 55) rfl (by first | decide | exact Nat.le_of_ble_eq_true rfl) rfl (na := 2) (by decide +kernel) rfl (by first | decide | exact Nat.le_of_ble_eq_true rfl) (W := 1) rfl (by first | decide | exact Nat.le_of_ble_eq_true rfl) hkK hnN (k' := k) (n' := n') rfl rfl ?_
  rintro _ _ ⟨rfl, rfl⟩
  show Go _ _ _ _ _ _ _ _ _ _ [(.long (own_mx tk tg)), (.ref w)]
  refine Go.pf C (wd hw 76 rfl) Via.refl 3 7 rfl rfl (wd hw 77 rfl) (wd hw 19 rfl) (ty := .long) (by decide) rfl rfl d19_55 rfl (M' := (tE t0 .null .null (D 0) (nx 0) (p 0) (s 0) :: tE t1 .null .null (D 1) (nx 1) (p 1) (s 1) :: tE t2 .null .null (D 2) (nx 2) (p 2) (s 2) :: wE w rA sh dm bt sA fA cA (own_mx tk tg) rc :: aS sA vs :: aF fA fs :: aI cA cs :: aT rA rv :: LS)) rfl ?_
  refine Go.aconstNull C d19_58 rfl ?_
  refine Go.retA C rfl rfl rfl d19_59 hkK hnN ?_
  exact hq
theorem d19_60 : decode prog_12_method_5_code 60 = .ok (.aload_n 0, 1) := by decide +kernel
theorem d19_61 : decode prog_12_method_5_code 61 = .ok (.lload 5, 2) := by decide +kernel
theorem d19_63 : decode prog_12_method_5_code 63 = .ok (.putfield 47, 3) := by decide +kernel
theorem d19_66 : decode prog_12_method_5_code 66 = .ok (.iload_n 3, 1) := by decide +kernel
theorem d19_67 : decode prog_12_method_5_code 67 = .ok (.ifCond .le 13, 3) := by decide +kernel
theorem d19_70 : decode prog_12_method_5_code 70 = .ok (.aload_n 0, 1) := by decide +kernel
theorem d19_71 : decode prog_12_method_5_code 71 = .ok (.iload_n 3, 1) := by decide +kernel
theorem d19_72 : decode prog_12_method_5_code 72 = .ok (.iload 4, 2) := by decide +kernel
theorem d19_74 : decode prog_12_method_5_code 74 = .ok (.invokevirtual 83, 3) := by decide +kernel
theorem d19_77 : decode prog_12_method_5_code 77 = .ok (.goto 31, 3) := by decide +kernel
theorem d19_108 : decode prog_12_method_5_code 108 = .ok (.goto (-108), 3) := by decide +kernel
theorem g_plB (l : Launch) (Z : State) (a0 : Array Value) (hw : HW Z a0) {E : E0} {Q : PQ} {t0 t1 t2 : Addr} {w sA fA cA rA : Addr} {sh : Int32} {dm : Int64} {bt rc : Int32} {tk : Int64} {rv : List Value} {D : Nat → Int64} {s : Nat → Int32} {p nx : Nat → Value} {vs fs cs : List Value} {LS : List Ent} {k n' : Nat} {tg : Int64} {lN d : Nat} {s7 : Slot} {nt tk0 : Int64} {n : Nat} {zs : Nat → Nat} {B : List Bk} {R ks c : List Nat} {lvf dgf : Nat → Nat} (C : Cx Z yN25 prog_12_method_5_code 8 (some (.object "com/example/charkha/charkha/Timeout")) E) (hlt : ¬ tg < nt) (hlv : 0 < Int32.ofNat lN) (hZ : Zs sh bt n zs) (hI : InvK (own_t3 t0 t1 t2) sh dm tk0 n zs D p nx vs fs cs LS B R ks) (hb : (lN, d, c) ∈ B) (hoth : ∀ b ∈ B.erase (lN, d, c), ∀ i ∈ b.2.2, Pc sh dm nt (D i) b.1 b.2.1) (hP : ∀ x ∈ c, lvf x < n ∧ dgf x < zs (lvf x) ∧ Pc sh dm nt (D x) (lvf x) (dgf x)) (hfree : ∀ j ∈ R, p j = .null ∧ nx j = .null) (hkM : k + own_cc ks ((own_lf s c).map lvf) ≤ 126) (hnM : n' + own_cz zs ks ((own_lf s c).map lvf) ≤ 2080) (hk : ∀ (p' nx' : Nat → Value) (vs' fs' cs' : List Value) (LS' : List Ent) (B' : List Bk) (R' : List Nat), InvK (own_t3 t0 t1 t2) sh dm nt n zs D p' nx' vs' fs' cs' LS' B' R' (own_insL ks ((own_lf s c).map lvf)) → (own_fl B').Perm (own_lf s c ++ own_fl (B.erase (lN, d, c))) → (∀ j ∈ R', p' j = .null ∧ nx' j = .null) → Go l Z { frames := 8, cells := 126, slots := 2080, locals := 180 } E Q (tE t0 .null .null (D 0) (nx' 0) (p' 0) (s 0) :: tE t1 .null .null (D 1) (nx' 1) (p' 1) (s 1) :: tE t2 .null .null (D 2) (nx' 2) (p' 2) (s 2) :: wE w rA sh dm bt sA fA cA nt rc :: aS sA vs' :: aF fA fs' :: aI cA cs' :: aT rA rv :: LS') (k + own_cc ks ((own_lf s c).map lvf)) (n' + own_cz zs ks ((own_lf s c).map lvf)) 0 #[.val (.ref w), .val (.long tg), .second, .val (.int (Int32.ofNat lN)), .val (.int (Int32.ofNat d)), .val (.long nt), .second, s7] []) :
    Go l Z { frames := 8, cells := 126, slots := 2080, locals := 180 } E Q (tE t0 .null .null (D 0) (nx 0) (p 0) (s 0) :: tE t1 .null .null (D 1) (nx 1) (p 1) (s 1) :: tE t2 .null .null (D 2) (nx 2) (p 2) (s 2) :: wE w rA sh dm bt sA fA cA tk rc :: aS sA vs :: aF fA fs :: aI cA cs :: aT rA rv :: LS) k n' 39 #[.val (.ref w), .val (.long tg), .second, .val (.int (Int32.ofNat lN)), .val (.int (Int32.ofNat d)), .val (.long nt), .second, s7] [] := by
  refine Go.lload C d19_39 rfl rfl ?_
  refine Go.lloadN C d19_41 rfl rfl ?_
  refine Go.lcmp C d19_42 rfl ?_
  refine Go.ifYes C d19_43 (by decide) (q := 60) rfl (XT.ll_le_t hlt) ?_
  refine Go.aloadN C d19_60 rfl rfl rfl ?_
  refine Go.lload C d19_61 rfl rfl ?_
  refine Go.pf C (wd hw 76 rfl) Via.refl 3 7 rfl rfl (wd hw 77 rfl) (wd hw 19 rfl) (ty := .long) (by decide) rfl rfl d19_63 rfl (M' := (tE t0 .null .null (D 0) (nx 0) (p 0) (s 0) :: tE t1 .null .null (D 1) (nx 1) (p 1) (s 1) :: tE t2 .null .null (D 2) (nx 2) (p 2) (s 2) :: wE w rA sh dm bt sA fA cA nt rc :: aS sA vs :: aF fA fs :: aI cA cs :: aT rA rv :: LS)) rfl ?_
  refine Go.iloadN C d19_66 rfl rfl ?_
  refine Go.ifNo C d19_67 (q := 70) rfl (XT.i0_le_f hlv) ?_
  refine Go.aloadN C d19_70 rfl rfl rfl ?_
  refine Go.iloadN C d19_71 rfl rfl ?_
  refine Go.iload C d19_72 rfl rfl ?_
  refine Go.callP C (y := yN26) (a := w) (as := [(.int (Int32.ofNat lN)), (.int (Int32.ofNat d))]) (rest := []) (wd hw 149 rfl) (wd hw 150 rfl) (sel_priv (y := yN26) (wd hw 19 rfl) (wd hw 150 rfl) (wd hw 151 rfl) (by first | decide | exact Nat.le_of_ble_eq_true rfl)) (wd hw 151 rfl) (wd hw 152 rfl) (wd hw 20 rfl) (fun _ r => r.exa 3 rfl) (own_mvd l Z a0 hw hZ hI hb hoth hP hfree) rfl d19_74 (q := 77) rfl (by first | decide | exact Nat.le_of_ble_eq_true rfl) rfl (na := 2) (by decide +kernel) rfl (by first | decide | exact Nat.le_of_ble_eq_true rfl) (W := 0) rfl (by first | decide | exact Nat.le_of_ble_eq_true rfl) hkM hnM (k' := (k + own_cc ks ((own_lf s c).map lvf))) (n' := (n' + own_cz zs ks ((own_lf s c).map lvf))) rfl rfl ?_
  rintro _ _ ⟨rfl, p1, nx1, vs1, fs1, cs1, LS1, B1, R1, rfl, hI1, hY1, hF1⟩
  show Go _ _ _ _ _ _ _ _ _ _ []
  refine Go.goto C d19_77 (by decide) (q := 108) rfl ?_
  refine Go.goto C d19_108 (by decide) (q := 0) rfl ?_
  exact hk p1 nx1 vs1 fs1 cs1 LS1 B1 R1 hI1 hY1 hF1
theorem g_plC1 (l : Launch) (Z : State) (a0 : Array Value) (hw : HW Z a0) {E : E0} {Q : PQ} {t0 t1 t2 : Addr} {w sA fA cA rA : Addr} {sh : Int32} {dm : Int64} {bt rc : Int32} {tk : Int64} {rv : List Value} {D : Nat → Int64} {s : Nat → Int32} {p nx : Nat → Value} {vs fs cs : List Value} {LS : List Ent} {k n' : Nat} {tg : Int64} {lN d : Nat} {s7 : Slot} {nt : Int64} (C : Cx Z yN25 prog_12_method_5_code 8 (some (.object "com/example/charkha/charkha/Timeout")) E) (hlt : ¬ tg < nt) (hlv : ¬ 0 < Int32.ofNat lN) (hk : Go l Z { frames := 8, cells := 126, slots := 2080, locals := 180 } E Q (tE t0 .null .null (D 0) (nx 0) (p 0) (s 0) :: tE t1 .null .null (D 1) (nx 1) (p 1) (s 1) :: tE t2 .null .null (D 2) (nx 2) (p 2) (s 2) :: wE w rA sh dm bt sA fA cA nt rc :: aS sA vs :: aF fA fs :: aI cA cs :: aT rA rv :: LS) k n' 80 #[.val (.ref w), .val (.long tg), .second, .val (.int (Int32.ofNat lN)), .val (.int (Int32.ofNat d)), .val (.long nt), .second, s7] []) :
    Go l Z { frames := 8, cells := 126, slots := 2080, locals := 180 } E Q (tE t0 .null .null (D 0) (nx 0) (p 0) (s 0) :: tE t1 .null .null (D 1) (nx 1) (p 1) (s 1) :: tE t2 .null .null (D 2) (nx 2) (p 2) (s 2) :: wE w rA sh dm bt sA fA cA tk rc :: aS sA vs :: aF fA fs :: aI cA cs :: aT rA rv :: LS) k n' 39 #[.val (.ref w), .val (.long tg), .second, .val (.int (Int32.ofNat lN)), .val (.int (Int32.ofNat d)), .val (.long nt), .second, s7] [] := by
  refine Go.lload C d19_39 rfl rfl ?_
  refine Go.lloadN C d19_41 rfl rfl ?_
  refine Go.lcmp C d19_42 rfl ?_
  refine Go.ifYes C d19_43 (by decide) (q := 60) rfl (XT.ll_le_t hlt) ?_
  refine Go.aloadN C d19_60 rfl rfl rfl ?_
  refine Go.lload C d19_61 rfl rfl ?_
  refine Go.pf C (wd hw 76 rfl) Via.refl 3 7 rfl rfl (wd hw 77 rfl) (wd hw 19 rfl) (ty := .long) (by decide) rfl rfl d19_63 rfl (M' := (tE t0 .null .null (D 0) (nx 0) (p 0) (s 0) :: tE t1 .null .null (D 1) (nx 1) (p 1) (s 1) :: tE t2 .null .null (D 2) (nx 2) (p 2) (s 2) :: wE w rA sh dm bt sA fA cA nt rc :: aS sA vs :: aF fA fs :: aI cA cs :: aT rA rv :: LS)) rfl ?_
  refine Go.iloadN C d19_66 rfl rfl ?_
  refine Go.ifYes C d19_67 (by decide) (q := 80) rfl (XT.i0_le_t hlv) ?_
  exact hk
theorem d19_80 : decode prog_12_method_5_code 80 = .ok (.aload_n 0, 1) := by decide +kernel
theorem d19_81 : decode prog_12_method_5_code 81 = .ok (.getfield 33, 3) := by decide +kernel
theorem d19_84 : decode prog_12_method_5_code 84 = .ok (.iconst 0, 1) := by decide +kernel
theorem d19_85 : decode prog_12_method_5_code 85 = .ok (.aaload, 1) := by decide +kernel
theorem d19_86 : decode prog_12_method_5_code 86 = .ok (.iload 4, 2) := by decide +kernel
theorem d19_88 : decode prog_12_method_5_code 88 = .ok (.aaload, 1) := by decide +kernel
theorem d19_89 : decode prog_12_method_5_code 89 = .ok (.astore 7, 2) := by decide +kernel
theorem g_plC2 (l : Launch) (Z : State) (a0 : Array Value) (hw : HW Z a0) {E : E0} {Q : PQ} {w sA fA cA rA : Addr} {sh : Int32} {dm : Int64} {bt rc : Int32} {tk : Int64} {sl fl : Addr} {vs fs cs rv hs ws : List Value}  {F : List Ent} {a : Addr} {tg nt : Int64} {lN d : Nat} {s7 : Slot} {k n' : Nat} (C : Cx Z yN25 prog_12_method_5_code 8 (some (.object "com/example/charkha/charkha/Timeout")) E) (hvs : vs[(0 : Int32).toNatClampNeg]? = some (.ref sl)) (g0 : ¬ Int32.ofNat d < 0) (hhs : hs[(Int32.ofNat d).toNatClampNeg]? = some (.ref a)) (p7 : Pl s7) (hk : Go l Z { frames := 8, cells := 126, slots := 2080, locals := 180 } E Q (aT sl hs :: aJ fl ws :: wE w rA sh dm bt sA fA cA tk rc :: aS sA vs :: aF fA fs :: aI cA cs :: aT rA rv :: F) k n' 91 #[.val (.ref w), .val (.long tg), .second, .val (.int (Int32.ofNat lN)), .val (.int (Int32.ofNat d)), .val (.long nt), .second, .val (.ref a)] []) :
    Go l Z { frames := 8, cells := 126, slots := 2080, locals := 180 } E Q (aT sl hs :: aJ fl ws :: wE w rA sh dm bt sA fA cA tk rc :: aS sA vs :: aF fA fs :: aI cA cs :: aT rA rv :: F) k n' 80 #[.val (.ref w), .val (.long tg), .second, .val (.int (Int32.ofNat lN)), .val (.int (Int32.ofNat d)), .val (.long nt), .second, s7] [] := by
  refine Go.aloadN C d19_80 rfl rfl rfl ?_
  refine Go.gf C (wd hw 46 rfl) 2 4 rfl rfl d19_81 rfl ?_
  refine Go.iconst C d19_84 rfl (v := (0 : Int32)) rfl ?_
  refine Go.aaload C (fun _ r => r.arr 3 rfl) rfl (by decide) (v := (.ref sl)) hvs d19_85 (q := 86) rfl ?_
  refine Go.iload C d19_86 rfl rfl ?_
  refine Go.aaload C (fun _ r => r.arr 0 rfl) rfl g0 (v := (.ref a)) hhs d19_88 (q := 89) rfl ?_
  refine Go.astore C d19_89 rfl rfl (Ls' := #[.val (.ref w), .val (.long tg), .second, .val (.int (Int32.ofNat lN)), .val (.int (Int32.ofNat d)), .val (.long nt), .second, .val (.ref a)]) (stl rfl p7 rfl rfl) ?_
  exact hk
theorem d19_91 : decode prog_12_method_5_code 91 = .ok (.aload_n 0, 1) := by decide +kernel
theorem d19_92 : decode prog_12_method_5_code 92 = .ok (.aload 7, 2) := by decide +kernel
theorem d19_94 : decode prog_12_method_5_code 94 = .ok (.invokevirtual 87, 3) := by decide +kernel
theorem d19_97 : decode prog_12_method_5_code 97 = .ok (.aload 7, 2) := by decide +kernel
theorem d19_99 : decode prog_12_method_5_code 99 = .ok (.invokevirtual 90, 3) := by decide +kernel
theorem d19_102 : decode prog_12_method_5_code 102 = .ok (.ifCond .ne 6, 3) := by decide +kernel
theorem d19_105 : decode prog_12_method_5_code 105 = .ok (.aload 7, 2) := by decide +kernel
theorem d19_107 : decode prog_12_method_5_code 107 = .ok (.areturn, 1) := by decide +kernel
theorem g_plC3 (l : Launch) (Z : State) (a0 : Array Value) (hw : HW Z a0) {E : E0} {Q : PQ} {t0 t1 t2 : Addr} {w sA fA cA rA : Addr} {sh : Int32} {dm : Int64} {bt rc : Int32} {tk : Int64} {rv : List Value} {D : Nat → Int64} {s : Nat → Int32} {p nx : Nat → Value} {vs fs cs : List Value} {LS : List Ent} {k n' : Nat} {tg : Int64} {lN d : Nat} {nt : Int64} {n : Nat} {zs : Nat → Nat} {B : List Bk} {R ks Y : List Nat} (C : Cx Z yN25 prog_12_method_5_code 8 (some (.object "com/example/charkha/charkha/Timeout")) E) (hkK : k ≤ 126) (hnN : n' ≤ 2080) (hZ : Zs sh bt n zs) (hI : InvK (own_t3 t0 t1 t2) sh dm tk n zs D p nx vs fs cs LS B R ks) (hY : (own_fl B).Perm (0 :: Y)) (hT : ∀ a b, a < 3 → b < 3 → a ≠ b → own_t3 t0 t1 t2 a ≠ own_t3 t0 t1 t2 b) (hl : ¬ s 0 = (1 : Int32)) (hq : ∀ (p' nx' : Nat → Value) (vs' fs' cs' : List Value) (LS' : List Ent) (B' : List Bk), InvK (own_t3 t0 t1 t2) sh dm tk n zs D p' nx' vs' fs' cs' LS' B' (0 :: R) ks → (own_fl B').Perm Y → (∀ j ∈ R, p' j = p j ∧ nx' j = nx j) → p' 0 = .null → nx' 0 = .null → Q (some (.ref t0)) (tE t0 .null .null (D 0) (nx' 0) (p' 0) (s 0) :: tE t1 .null .null (D 1) (nx' 1) (p' 1) (s 1) :: tE t2 .null .null (D 2) (nx' 2) (p' 2) (s 2) :: wE w rA sh dm bt sA fA cA tk rc :: aS sA vs' :: aF fA fs' :: aI cA cs' :: aT rA rv :: LS')) :
    Go l Z { frames := 8, cells := 126, slots := 2080, locals := 180 } E Q (tE t0 .null .null (D 0) (nx 0) (p 0) (s 0) :: tE t1 .null .null (D 1) (nx 1) (p 1) (s 1) :: tE t2 .null .null (D 2) (nx 2) (p 2) (s 2) :: wE w rA sh dm bt sA fA cA tk rc :: aS sA vs :: aF fA fs :: aI cA cs :: aT rA rv :: LS) k n' 91 #[.val (.ref w), .val (.long tg), .second, .val (.int (Int32.ofNat lN)), .val (.int (Int32.ofNat d)), .val (.long nt), .second, .val (.ref t0)] [] := by
  refine Go.aloadN C d19_91 rfl rfl rfl ?_
  refine Go.aload C d19_92 rfl rfl rfl ?_
  refine Go.callP C (y := yN23) (a := w) (as := [(.ref t0)]) (rest := []) (wd hw 135 rfl) (wd hw 136 rfl) (sel_priv (y := yN23) (wd hw 19 rfl) (wd hw 136 rfl) (wd hw 137 rfl) (by first | decide | exact Nat.le_of_ble_eq_true rfl)) (wd hw 137 rfl) (wd hw 138 rfl) (wd hw 20 rfl) (fun _ r => r.exa 3 rfl) (own_unlK l Z a0 hw hZ hI (i := 0) hY hT rfl) rfl d19_94 (q := 97) rfl (by first | decide | exact Nat.le_of_ble_eq_true rfl) rfl (na := 1) (by decide +kernel) rfl (by first | decide | exact Nat.le_of_ble_eq_true rfl) (W := 0) rfl (by first | decide | exact Nat.le_of_ble_eq_true rfl) hkK hnN (k' := k) (n' := n') rfl rfl ?_
  rintro _ _ ⟨rfl, p1, nx1, vs1, fs1, cs1, LS1, B1, rfl, hI1, hY1, hF1, hp1, hn1⟩
  show Go _ _ _ _ _ _ _ _ _ _ []
  refine Go.aload C d19_97 rfl rfl rfl ?_
  refine Go.callV C (y := yN27) (z := yN27) (a := t0) (as := []) (rest := []) (wd hw 153 rfl) (wd hw 154 rfl) (nf_sel (z := yN27) (wd hw 156 rfl)) (wd hw 156 rfl) (wd hw 155 rfl) (wd hw 157 rfl) (wd hw 7 rfl) (fun _ r => r.exa 0 rfl) (m_isC0 l Z a0 hw _ hl) rfl d19_99 (q := 102) rfl (by first | decide | exact Nat.le_of_ble_eq_true rfl) rfl (na := 0) (by decide +kernel) rfl (by first | decide | exact Nat.le_of_ble_eq_true rfl) (W := 0) rfl (by first | decide | exact Nat.le_of_ble_eq_true rfl) hkK hnN (k' := k) (n' := n') rfl rfl ?_
  rintro _ _ ⟨rfl, rfl⟩
  show Go _ _ _ _ _ _ _ _ _ _ [(.int (0 : Int32))]
  refine Go.ifNo C d19_102 (q := 105) rfl (XT.i0_ne_f (by decide)) ?_
  refine Go.aload C d19_105 rfl rfl rfl ?_
  refine Go.retA C rfl rfl rfl d19_107 hkK hnN ?_
  exact hq p1 nx1 vs1 fs1 cs1 LS1 B1 hI1 hY1 hF1 hp1 hn1
theorem g_plD0 (l : Launch) (Z : State) (a0 : Array Value) (hw : HW Z a0) {E : E0} {Q : PQ} {t0 t1 t2 : Addr} {w sA fA cA rA : Addr} {sh : Int32} {dm : Int64} {bt rc : Int32} {tk : Int64} {rv : List Value} {D : Nat → Int64} {s : Nat → Int32} {p nx : Nat → Value} {vs fs cs : List Value} {LS : List Ent} {k n' : Nat} {tg : Int64} {lN d : Nat} {nt : Int64} {n : Nat} {zs : Nat → Nat} {B : List Bk} {R ks Y : List Nat} (C : Cx Z yN25 prog_12_method_5_code 8 (some (.object "com/example/charkha/charkha/Timeout")) E) (hkK : k ≤ 126) (hnN : n' ≤ 2080) (hZ : Zs sh bt n zs) (hI : InvK (own_t3 t0 t1 t2) sh dm tk n zs D p nx vs fs cs LS B R ks) (hY : (own_fl B).Perm (0 :: Y)) (hT : ∀ a b, a < 3 → b < 3 → a ≠ b → own_t3 t0 t1 t2 a ≠ own_t3 t0 t1 t2 b) (hl : s 0 = (1 : Int32)) (hk : ∀ (p' nx' : Nat → Value) (vs' fs' cs' : List Value) (LS' : List Ent) (B' : List Bk), InvK (own_t3 t0 t1 t2) sh dm tk n zs D p' nx' vs' fs' cs' LS' B' (0 :: R) ks → (own_fl B').Perm Y → (∀ j ∈ R, p' j = p j ∧ nx' j = nx j) → p' 0 = .null → nx' 0 = .null → Go l Z { frames := 8, cells := 126, slots := 2080, locals := 180 } E Q (tE t0 .null .null (D 0) (nx' 0) (p' 0) (s 0) :: tE t1 .null .null (D 1) (nx' 1) (p' 1) (s 1) :: tE t2 .null .null (D 2) (nx' 2) (p' 2) (s 2) :: wE w rA sh dm bt sA fA cA tk rc :: aS sA vs' :: aF fA fs' :: aI cA cs' :: aT rA rv :: LS') k n' 0 #[.val (.ref w), .val (.long tg), .second, .val (.int (Int32.ofNat lN)), .val (.int (Int32.ofNat d)), .val (.long nt), .second, .val (.ref t0)] []) :
    Go l Z { frames := 8, cells := 126, slots := 2080, locals := 180 } E Q (tE t0 .null .null (D 0) (nx 0) (p 0) (s 0) :: tE t1 .null .null (D 1) (nx 1) (p 1) (s 1) :: tE t2 .null .null (D 2) (nx 2) (p 2) (s 2) :: wE w rA sh dm bt sA fA cA tk rc :: aS sA vs :: aF fA fs :: aI cA cs :: aT rA rv :: LS) k n' 91 #[.val (.ref w), .val (.long tg), .second, .val (.int (Int32.ofNat lN)), .val (.int (Int32.ofNat d)), .val (.long nt), .second, .val (.ref t0)] [] := by
  refine Go.aloadN C d19_91 rfl rfl rfl ?_
  refine Go.aload C d19_92 rfl rfl rfl ?_
  refine Go.callP C (y := yN23) (a := w) (as := [(.ref t0)]) (rest := []) (wd hw 135 rfl) (wd hw 136 rfl) (sel_priv (y := yN23) (wd hw 19 rfl) (wd hw 136 rfl) (wd hw 137 rfl) (by first | decide | exact Nat.le_of_ble_eq_true rfl)) (wd hw 137 rfl) (wd hw 138 rfl) (wd hw 20 rfl) (fun _ r => r.exa 3 rfl) (own_unlK l Z a0 hw hZ hI (i := 0) hY hT rfl) rfl d19_94 (q := 97) rfl (by first | decide | exact Nat.le_of_ble_eq_true rfl) rfl (na := 1) (by decide +kernel) rfl (by first | decide | exact Nat.le_of_ble_eq_true rfl) (W := 0) rfl (by first | decide | exact Nat.le_of_ble_eq_true rfl) hkK hnN (k' := k) (n' := n') rfl rfl ?_
  rintro _ _ ⟨rfl, p1, nx1, vs1, fs1, cs1, LS1, B1, rfl, hI1, hY1, hF1, hp1, hn1⟩
  show Go _ _ _ _ _ _ _ _ _ _ []
  refine Go.aload C d19_97 rfl rfl rfl ?_
  refine Go.callV C (y := yN27) (z := yN27) (a := t0) (as := []) (rest := []) (wd hw 153 rfl) (wd hw 154 rfl) (nf_sel (z := yN27) (wd hw 156 rfl)) (wd hw 156 rfl) (wd hw 155 rfl) (wd hw 157 rfl) (wd hw 7 rfl) (fun _ r => r.exa 0 rfl) (m_isC1 l Z a0 hw _ hl) rfl d19_99 (q := 102) rfl (by first | decide | exact Nat.le_of_ble_eq_true rfl) rfl (na := 0) (by decide +kernel) rfl (by first | decide | exact Nat.le_of_ble_eq_true rfl) (W := 0) rfl (by first | decide | exact Nat.le_of_ble_eq_true rfl) hkK hnN (k' := k) (n' := n') rfl rfl ?_
  rintro _ _ ⟨rfl, rfl⟩
  show Go _ _ _ _ _ _ _ _ _ _ [(.int (1 : Int32))]
  refine Go.ifYes C d19_102 (by decide) (q := 108) rfl (XT.i0_ne_t (by decide)) ?_
  refine Go.goto C d19_108 (by decide) (q := 0) rfl ?_
  exact hk p1 nx1 vs1 fs1 cs1 LS1 B1 hI1 hY1 hF1 hp1 hn1
theorem g_plC4 (l : Launch) (Z : State) (a0 : Array Value) (hw : HW Z a0) {E : E0} {Q : PQ} {t0 t1 t2 : Addr} {w sA fA cA rA : Addr} {sh : Int32} {dm : Int64} {bt rc : Int32} {tk : Int64} {rv : List Value} {D : Nat → Int64} {s : Nat → Int32} {p nx : Nat → Value} {vs fs cs : List Value} {LS : List Ent} {k n' : Nat} {tg : Int64} {lN d : Nat} {nt : Int64} {n : Nat} {zs : Nat → Nat} {B : List Bk} {R ks Y : List Nat} (C : Cx Z yN25 prog_12_method_5_code 8 (some (.object "com/example/charkha/charkha/Timeout")) E) (hkK : k ≤ 126) (hnN : n' ≤ 2080) (hZ : Zs sh bt n zs) (hI : InvK (own_t3 t0 t1 t2) sh dm tk n zs D p nx vs fs cs LS B R ks) (hY : (own_fl B).Perm (1 :: Y)) (hT : ∀ a b, a < 3 → b < 3 → a ≠ b → own_t3 t0 t1 t2 a ≠ own_t3 t0 t1 t2 b) (hl : ¬ s 1 = (1 : Int32)) (hq : ∀ (p' nx' : Nat → Value) (vs' fs' cs' : List Value) (LS' : List Ent) (B' : List Bk), InvK (own_t3 t0 t1 t2) sh dm tk n zs D p' nx' vs' fs' cs' LS' B' (1 :: R) ks → (own_fl B').Perm Y → (∀ j ∈ R, p' j = p j ∧ nx' j = nx j) → p' 1 = .null → nx' 1 = .null → Q (some (.ref t1)) (tE t0 .null .null (D 0) (nx' 0) (p' 0) (s 0) :: tE t1 .null .null (D 1) (nx' 1) (p' 1) (s 1) :: tE t2 .null .null (D 2) (nx' 2) (p' 2) (s 2) :: wE w rA sh dm bt sA fA cA tk rc :: aS sA vs' :: aF fA fs' :: aI cA cs' :: aT rA rv :: LS')) :
    Go l Z { frames := 8, cells := 126, slots := 2080, locals := 180 } E Q (tE t0 .null .null (D 0) (nx 0) (p 0) (s 0) :: tE t1 .null .null (D 1) (nx 1) (p 1) (s 1) :: tE t2 .null .null (D 2) (nx 2) (p 2) (s 2) :: wE w rA sh dm bt sA fA cA tk rc :: aS sA vs :: aF fA fs :: aI cA cs :: aT rA rv :: LS) k n' 91 #[.val (.ref w), .val (.long tg), .second, .val (.int (Int32.ofNat lN)), .val (.int (Int32.ofNat d)), .val (.long nt), .second, .val (.ref t1)] [] := by
  refine Go.aloadN C d19_91 rfl rfl rfl ?_
  refine Go.aload C d19_92 rfl rfl rfl ?_
  refine Go.callP C (y := yN23) (a := w) (as := [(.ref t1)]) (rest := []) (wd hw 135 rfl) (wd hw 136 rfl) (sel_priv (y := yN23) (wd hw 19 rfl) (wd hw 136 rfl) (wd hw 137 rfl) (by first | decide | exact Nat.le_of_ble_eq_true rfl)) (wd hw 137 rfl) (wd hw 138 rfl) (wd hw 20 rfl) (fun _ r => r.exa 3 rfl) (own_unlK l Z a0 hw hZ hI (i := 1) hY hT rfl) rfl d19_94 (q := 97) rfl (by first | decide | exact Nat.le_of_ble_eq_true rfl) rfl (na := 1) (by decide +kernel) rfl (by first | decide | exact Nat.le_of_ble_eq_true rfl) (W := 0) rfl (by first | decide | exact Nat.le_of_ble_eq_true rfl) hkK hnN (k' := k) (n' := n') rfl rfl ?_
  rintro _ _ ⟨rfl, p1, nx1, vs1, fs1, cs1, LS1, B1, rfl, hI1, hY1, hF1, hp1, hn1⟩
  show Go _ _ _ _ _ _ _ _ _ _ []
  refine Go.aload C d19_97 rfl rfl rfl ?_
  refine Go.pick (M' := (tE t1 .null .null (D 1) (nx1 1) (p1 1) (s 1) :: tE t0 .null .null (D 0) (nx1 0) (p1 0) (s 0) :: tE t2 .null .null (D 2) (nx1 2) (p1 2) (s 2) :: wE w rA sh dm bt sA fA cA tk rc :: aS sA vs1 :: aF fA fs1 :: aI cA cs1 :: aT rA rv :: LS1)) 8 [1, 0, 2, 3, 4, 5, 6, 7] (by decide) (by decide) rfl ?_
  refine Go.callV C (y := yN27) (z := yN27) (a := t1) (as := []) (rest := []) (wd hw 153 rfl) (wd hw 154 rfl) (nf_sel (z := yN27) (wd hw 156 rfl)) (wd hw 156 rfl) (wd hw 155 rfl) (wd hw 157 rfl) (wd hw 7 rfl) (fun _ r => r.exa 0 rfl) (m_isC0 l Z a0 hw _ hl) rfl d19_99 (q := 102) rfl (by first | decide | exact Nat.le_of_ble_eq_true rfl) rfl (na := 0) (by decide +kernel) rfl (by first | decide | exact Nat.le_of_ble_eq_true rfl) (W := 0) rfl (by first | decide | exact Nat.le_of_ble_eq_true rfl) hkK hnN (k' := k) (n' := n') rfl rfl ?_
  rintro _ _ ⟨rfl, rfl⟩
  show Go _ _ _ _ _ _ _ _ _ _ [(.int (0 : Int32))]
  refine Go.ifNo C d19_102 (q := 105) rfl (XT.i0_ne_f (by decide)) ?_
  refine Go.pick (M' := (tE t0 .null .null (D 0) (nx1 0) (p1 0) (s 0) :: tE t1 .null .null (D 1) (nx1 1) (p1 1) (s 1) :: tE t2 .null .null (D 2) (nx1 2) (p1 2) (s 2) :: wE w rA sh dm bt sA fA cA tk rc :: aS sA vs1 :: aF fA fs1 :: aI cA cs1 :: aT rA rv :: LS1)) 8 [1, 0, 2, 3, 4, 5, 6, 7] (by decide) (by decide) rfl ?_
  refine Go.aload C d19_105 rfl rfl rfl ?_
  refine Go.retA C rfl rfl rfl d19_107 hkK hnN ?_
  exact hq p1 nx1 vs1 fs1 cs1 LS1 B1 hI1 hY1 hF1 hp1 hn1
theorem g_plD1 (l : Launch) (Z : State) (a0 : Array Value) (hw : HW Z a0) {E : E0} {Q : PQ} {t0 t1 t2 : Addr} {w sA fA cA rA : Addr} {sh : Int32} {dm : Int64} {bt rc : Int32} {tk : Int64} {rv : List Value} {D : Nat → Int64} {s : Nat → Int32} {p nx : Nat → Value} {vs fs cs : List Value} {LS : List Ent} {k n' : Nat} {tg : Int64} {lN d : Nat} {nt : Int64} {n : Nat} {zs : Nat → Nat} {B : List Bk} {R ks Y : List Nat} (C : Cx Z yN25 prog_12_method_5_code 8 (some (.object "com/example/charkha/charkha/Timeout")) E) (hkK : k ≤ 126) (hnN : n' ≤ 2080) (hZ : Zs sh bt n zs) (hI : InvK (own_t3 t0 t1 t2) sh dm tk n zs D p nx vs fs cs LS B R ks) (hY : (own_fl B).Perm (1 :: Y)) (hT : ∀ a b, a < 3 → b < 3 → a ≠ b → own_t3 t0 t1 t2 a ≠ own_t3 t0 t1 t2 b) (hl : s 1 = (1 : Int32)) (hk : ∀ (p' nx' : Nat → Value) (vs' fs' cs' : List Value) (LS' : List Ent) (B' : List Bk), InvK (own_t3 t0 t1 t2) sh dm tk n zs D p' nx' vs' fs' cs' LS' B' (1 :: R) ks → (own_fl B').Perm Y → (∀ j ∈ R, p' j = p j ∧ nx' j = nx j) → p' 1 = .null → nx' 1 = .null → Go l Z { frames := 8, cells := 126, slots := 2080, locals := 180 } E Q (tE t0 .null .null (D 0) (nx' 0) (p' 0) (s 0) :: tE t1 .null .null (D 1) (nx' 1) (p' 1) (s 1) :: tE t2 .null .null (D 2) (nx' 2) (p' 2) (s 2) :: wE w rA sh dm bt sA fA cA tk rc :: aS sA vs' :: aF fA fs' :: aI cA cs' :: aT rA rv :: LS') k n' 0 #[.val (.ref w), .val (.long tg), .second, .val (.int (Int32.ofNat lN)), .val (.int (Int32.ofNat d)), .val (.long nt), .second, .val (.ref t1)] []) :
    Go l Z { frames := 8, cells := 126, slots := 2080, locals := 180 } E Q (tE t0 .null .null (D 0) (nx 0) (p 0) (s 0) :: tE t1 .null .null (D 1) (nx 1) (p 1) (s 1) :: tE t2 .null .null (D 2) (nx 2) (p 2) (s 2) :: wE w rA sh dm bt sA fA cA tk rc :: aS sA vs :: aF fA fs :: aI cA cs :: aT rA rv :: LS) k n' 91 #[.val (.ref w), .val (.long tg), .second, .val (.int (Int32.ofNat lN)), .val (.int (Int32.ofNat d)), .val (.long nt), .second, .val (.ref t1)] [] := by
  refine Go.aloadN C d19_91 rfl rfl rfl ?_
  refine Go.aload C d19_92 rfl rfl rfl ?_
  refine Go.callP C (y := yN23) (a := w) (as := [(.ref t1)]) (rest := []) (wd hw 135 rfl) (wd hw 136 rfl) (sel_priv (y := yN23) (wd hw 19 rfl) (wd hw 136 rfl) (wd hw 137 rfl) (by first | decide | exact Nat.le_of_ble_eq_true rfl)) (wd hw 137 rfl) (wd hw 138 rfl) (wd hw 20 rfl) (fun _ r => r.exa 3 rfl) (own_unlK l Z a0 hw hZ hI (i := 1) hY hT rfl) rfl d19_94 (q := 97) rfl (by first | decide | exact Nat.le_of_ble_eq_true rfl) rfl (na := 1) (by decide +kernel) rfl (by first | decide | exact Nat.le_of_ble_eq_true rfl) (W := 0) rfl (by first | decide | exact Nat.le_of_ble_eq_true rfl) hkK hnN (k' := k) (n' := n') rfl rfl ?_
  rintro _ _ ⟨rfl, p1, nx1, vs1, fs1, cs1, LS1, B1, rfl, hI1, hY1, hF1, hp1, hn1⟩
  show Go _ _ _ _ _ _ _ _ _ _ []
  refine Go.aload C d19_97 rfl rfl rfl ?_
  refine Go.pick (M' := (tE t1 .null .null (D 1) (nx1 1) (p1 1) (s 1) :: tE t0 .null .null (D 0) (nx1 0) (p1 0) (s 0) :: tE t2 .null .null (D 2) (nx1 2) (p1 2) (s 2) :: wE w rA sh dm bt sA fA cA tk rc :: aS sA vs1 :: aF fA fs1 :: aI cA cs1 :: aT rA rv :: LS1)) 8 [1, 0, 2, 3, 4, 5, 6, 7] (by decide) (by decide) rfl ?_
  refine Go.callV C (y := yN27) (z := yN27) (a := t1) (as := []) (rest := []) (wd hw 153 rfl) (wd hw 154 rfl) (nf_sel (z := yN27) (wd hw 156 rfl)) (wd hw 156 rfl) (wd hw 155 rfl) (wd hw 157 rfl) (wd hw 7 rfl) (fun _ r => r.exa 0 rfl) (m_isC1 l Z a0 hw _ hl) rfl d19_99 (q := 102) rfl (by first | decide | exact Nat.le_of_ble_eq_true rfl) rfl (na := 0) (by decide +kernel) rfl (by first | decide | exact Nat.le_of_ble_eq_true rfl) (W := 0) rfl (by first | decide | exact Nat.le_of_ble_eq_true rfl) hkK hnN (k' := k) (n' := n') rfl rfl ?_
  rintro _ _ ⟨rfl, rfl⟩
  show Go _ _ _ _ _ _ _ _ _ _ [(.int (1 : Int32))]
  refine Go.ifYes C d19_102 (by decide) (q := 108) rfl (XT.i0_ne_t (by decide)) ?_
  refine Go.pick (M' := (tE t0 .null .null (D 0) (nx1 0) (p1 0) (s 0) :: tE t1 .null .null (D 1) (nx1 1) (p1 1) (s 1) :: tE t2 .null .null (D 2) (nx1 2) (p1 2) (s 2) :: wE w rA sh dm bt sA fA cA tk rc :: aS sA vs1 :: aF fA fs1 :: aI cA cs1 :: aT rA rv :: LS1)) 8 [1, 0, 2, 3, 4, 5, 6, 7] (by decide) (by decide) rfl ?_
  refine Go.goto C d19_108 (by decide) (q := 0) rfl ?_
  exact hk p1 nx1 vs1 fs1 cs1 LS1 B1 hI1 hY1 hF1 hp1 hn1
theorem g_plC5 (l : Launch) (Z : State) (a0 : Array Value) (hw : HW Z a0) {E : E0} {Q : PQ} {t0 t1 t2 : Addr} {w sA fA cA rA : Addr} {sh : Int32} {dm : Int64} {bt rc : Int32} {tk : Int64} {rv : List Value} {D : Nat → Int64} {s : Nat → Int32} {p nx : Nat → Value} {vs fs cs : List Value} {LS : List Ent} {k n' : Nat} {tg : Int64} {lN d : Nat} {nt : Int64} {n : Nat} {zs : Nat → Nat} {B : List Bk} {R ks Y : List Nat} (C : Cx Z yN25 prog_12_method_5_code 8 (some (.object "com/example/charkha/charkha/Timeout")) E) (hkK : k ≤ 126) (hnN : n' ≤ 2080) (hZ : Zs sh bt n zs) (hI : InvK (own_t3 t0 t1 t2) sh dm tk n zs D p nx vs fs cs LS B R ks) (hY : (own_fl B).Perm (2 :: Y)) (hT : ∀ a b, a < 3 → b < 3 → a ≠ b → own_t3 t0 t1 t2 a ≠ own_t3 t0 t1 t2 b) (hl : ¬ s 2 = (1 : Int32)) (hq : ∀ (p' nx' : Nat → Value) (vs' fs' cs' : List Value) (LS' : List Ent) (B' : List Bk), InvK (own_t3 t0 t1 t2) sh dm tk n zs D p' nx' vs' fs' cs' LS' B' (2 :: R) ks → (own_fl B').Perm Y → (∀ j ∈ R, p' j = p j ∧ nx' j = nx j) → p' 2 = .null → nx' 2 = .null → Q (some (.ref t2)) (tE t0 .null .null (D 0) (nx' 0) (p' 0) (s 0) :: tE t1 .null .null (D 1) (nx' 1) (p' 1) (s 1) :: tE t2 .null .null (D 2) (nx' 2) (p' 2) (s 2) :: wE w rA sh dm bt sA fA cA tk rc :: aS sA vs' :: aF fA fs' :: aI cA cs' :: aT rA rv :: LS')) :
    Go l Z { frames := 8, cells := 126, slots := 2080, locals := 180 } E Q (tE t0 .null .null (D 0) (nx 0) (p 0) (s 0) :: tE t1 .null .null (D 1) (nx 1) (p 1) (s 1) :: tE t2 .null .null (D 2) (nx 2) (p 2) (s 2) :: wE w rA sh dm bt sA fA cA tk rc :: aS sA vs :: aF fA fs :: aI cA cs :: aT rA rv :: LS) k n' 91 #[.val (.ref w), .val (.long tg), .second, .val (.int (Int32.ofNat lN)), .val (.int (Int32.ofNat d)), .val (.long nt), .second, .val (.ref t2)] [] := by
  refine Go.aloadN C d19_91 rfl rfl rfl ?_
  refine Go.aload C d19_92 rfl rfl rfl ?_
  refine Go.callP C (y := yN23) (a := w) (as := [(.ref t2)]) (rest := []) (wd hw 135 rfl) (wd hw 136 rfl) (sel_priv (y := yN23) (wd hw 19 rfl) (wd hw 136 rfl) (wd hw 137 rfl) (by first | decide | exact Nat.le_of_ble_eq_true rfl)) (wd hw 137 rfl) (wd hw 138 rfl) (wd hw 20 rfl) (fun _ r => r.exa 3 rfl) (own_unlK l Z a0 hw hZ hI (i := 2) hY hT rfl) rfl d19_94 (q := 97) rfl (by first | decide | exact Nat.le_of_ble_eq_true rfl) rfl (na := 1) (by decide +kernel) rfl (by first | decide | exact Nat.le_of_ble_eq_true rfl) (W := 0) rfl (by first | decide | exact Nat.le_of_ble_eq_true rfl) hkK hnN (k' := k) (n' := n') rfl rfl ?_
  rintro _ _ ⟨rfl, p1, nx1, vs1, fs1, cs1, LS1, B1, rfl, hI1, hY1, hF1, hp1, hn1⟩
  show Go _ _ _ _ _ _ _ _ _ _ []
  refine Go.aload C d19_97 rfl rfl rfl ?_
  refine Go.pick (M' := (tE t2 .null .null (D 2) (nx1 2) (p1 2) (s 2) :: tE t0 .null .null (D 0) (nx1 0) (p1 0) (s 0) :: tE t1 .null .null (D 1) (nx1 1) (p1 1) (s 1) :: wE w rA sh dm bt sA fA cA tk rc :: aS sA vs1 :: aF fA fs1 :: aI cA cs1 :: aT rA rv :: LS1)) 8 [2, 0, 1, 3, 4, 5, 6, 7] (by decide) (by decide) rfl ?_
  refine Go.callV C (y := yN27) (z := yN27) (a := t2) (as := []) (rest := []) (wd hw 153 rfl) (wd hw 154 rfl) (nf_sel (z := yN27) (wd hw 156 rfl)) (wd hw 156 rfl) (wd hw 155 rfl) (wd hw 157 rfl) (wd hw 7 rfl) (fun _ r => r.exa 0 rfl) (m_isC0 l Z a0 hw _ hl) rfl d19_99 (q := 102) rfl (by first | decide | exact Nat.le_of_ble_eq_true rfl) rfl (na := 0) (by decide +kernel) rfl (by first | decide | exact Nat.le_of_ble_eq_true rfl) (W := 0) rfl (by first | decide | exact Nat.le_of_ble_eq_true rfl) hkK hnN (k' := k) (n' := n') rfl rfl ?_
  rintro _ _ ⟨rfl, rfl⟩
  show Go _ _ _ _ _ _ _ _ _ _ [(.int (0 : Int32))]
  refine Go.ifNo C d19_102 (q := 105) rfl (XT.i0_ne_f (by decide)) ?_
  refine Go.pick (M' := (tE t0 .null .null (D 0) (nx1 0) (p1 0) (s 0) :: tE t1 .null .null (D 1) (nx1 1) (p1 1) (s 1) :: tE t2 .null .null (D 2) (nx1 2) (p1 2) (s 2) :: wE w rA sh dm bt sA fA cA tk rc :: aS sA vs1 :: aF fA fs1 :: aI cA cs1 :: aT rA rv :: LS1)) 8 [1, 2, 0, 3, 4, 5, 6, 7] (by decide) (by decide) rfl ?_
  refine Go.aload C d19_105 rfl rfl rfl ?_
  refine Go.retA C rfl rfl rfl d19_107 hkK hnN ?_
  exact hq p1 nx1 vs1 fs1 cs1 LS1 B1 hI1 hY1 hF1 hp1 hn1
theorem g_plD2 (l : Launch) (Z : State) (a0 : Array Value) (hw : HW Z a0) {E : E0} {Q : PQ} {t0 t1 t2 : Addr} {w sA fA cA rA : Addr} {sh : Int32} {dm : Int64} {bt rc : Int32} {tk : Int64} {rv : List Value} {D : Nat → Int64} {s : Nat → Int32} {p nx : Nat → Value} {vs fs cs : List Value} {LS : List Ent} {k n' : Nat} {tg : Int64} {lN d : Nat} {nt : Int64} {n : Nat} {zs : Nat → Nat} {B : List Bk} {R ks Y : List Nat} (C : Cx Z yN25 prog_12_method_5_code 8 (some (.object "com/example/charkha/charkha/Timeout")) E) (hkK : k ≤ 126) (hnN : n' ≤ 2080) (hZ : Zs sh bt n zs) (hI : InvK (own_t3 t0 t1 t2) sh dm tk n zs D p nx vs fs cs LS B R ks) (hY : (own_fl B).Perm (2 :: Y)) (hT : ∀ a b, a < 3 → b < 3 → a ≠ b → own_t3 t0 t1 t2 a ≠ own_t3 t0 t1 t2 b) (hl : s 2 = (1 : Int32)) (hk : ∀ (p' nx' : Nat → Value) (vs' fs' cs' : List Value) (LS' : List Ent) (B' : List Bk), InvK (own_t3 t0 t1 t2) sh dm tk n zs D p' nx' vs' fs' cs' LS' B' (2 :: R) ks → (own_fl B').Perm Y → (∀ j ∈ R, p' j = p j ∧ nx' j = nx j) → p' 2 = .null → nx' 2 = .null → Go l Z { frames := 8, cells := 126, slots := 2080, locals := 180 } E Q (tE t0 .null .null (D 0) (nx' 0) (p' 0) (s 0) :: tE t1 .null .null (D 1) (nx' 1) (p' 1) (s 1) :: tE t2 .null .null (D 2) (nx' 2) (p' 2) (s 2) :: wE w rA sh dm bt sA fA cA tk rc :: aS sA vs' :: aF fA fs' :: aI cA cs' :: aT rA rv :: LS') k n' 0 #[.val (.ref w), .val (.long tg), .second, .val (.int (Int32.ofNat lN)), .val (.int (Int32.ofNat d)), .val (.long nt), .second, .val (.ref t2)] []) :
    Go l Z { frames := 8, cells := 126, slots := 2080, locals := 180 } E Q (tE t0 .null .null (D 0) (nx 0) (p 0) (s 0) :: tE t1 .null .null (D 1) (nx 1) (p 1) (s 1) :: tE t2 .null .null (D 2) (nx 2) (p 2) (s 2) :: wE w rA sh dm bt sA fA cA tk rc :: aS sA vs :: aF fA fs :: aI cA cs :: aT rA rv :: LS) k n' 91 #[.val (.ref w), .val (.long tg), .second, .val (.int (Int32.ofNat lN)), .val (.int (Int32.ofNat d)), .val (.long nt), .second, .val (.ref t2)] [] := by
  refine Go.aloadN C d19_91 rfl rfl rfl ?_
  refine Go.aload C d19_92 rfl rfl rfl ?_
  refine Go.callP C (y := yN23) (a := w) (as := [(.ref t2)]) (rest := []) (wd hw 135 rfl) (wd hw 136 rfl) (sel_priv (y := yN23) (wd hw 19 rfl) (wd hw 136 rfl) (wd hw 137 rfl) (by first | decide | exact Nat.le_of_ble_eq_true rfl)) (wd hw 137 rfl) (wd hw 138 rfl) (wd hw 20 rfl) (fun _ r => r.exa 3 rfl) (own_unlK l Z a0 hw hZ hI (i := 2) hY hT rfl) rfl d19_94 (q := 97) rfl (by first | decide | exact Nat.le_of_ble_eq_true rfl) rfl (na := 1) (by decide +kernel) rfl (by first | decide | exact Nat.le_of_ble_eq_true rfl) (W := 0) rfl (by first | decide | exact Nat.le_of_ble_eq_true rfl) hkK hnN (k' := k) (n' := n') rfl rfl ?_
  rintro _ _ ⟨rfl, p1, nx1, vs1, fs1, cs1, LS1, B1, rfl, hI1, hY1, hF1, hp1, hn1⟩
  show Go _ _ _ _ _ _ _ _ _ _ []
  refine Go.aload C d19_97 rfl rfl rfl ?_
  refine Go.pick (M' := (tE t2 .null .null (D 2) (nx1 2) (p1 2) (s 2) :: tE t0 .null .null (D 0) (nx1 0) (p1 0) (s 0) :: tE t1 .null .null (D 1) (nx1 1) (p1 1) (s 1) :: wE w rA sh dm bt sA fA cA tk rc :: aS sA vs1 :: aF fA fs1 :: aI cA cs1 :: aT rA rv :: LS1)) 8 [2, 0, 1, 3, 4, 5, 6, 7] (by decide) (by decide) rfl ?_
  refine Go.callV C (y := yN27) (z := yN27) (a := t2) (as := []) (rest := []) (wd hw 153 rfl) (wd hw 154 rfl) (nf_sel (z := yN27) (wd hw 156 rfl)) (wd hw 156 rfl) (wd hw 155 rfl) (wd hw 157 rfl) (wd hw 7 rfl) (fun _ r => r.exa 0 rfl) (m_isC1 l Z a0 hw _ hl) rfl d19_99 (q := 102) rfl (by first | decide | exact Nat.le_of_ble_eq_true rfl) rfl (na := 0) (by decide +kernel) rfl (by first | decide | exact Nat.le_of_ble_eq_true rfl) (W := 0) rfl (by first | decide | exact Nat.le_of_ble_eq_true rfl) hkK hnN (k' := k) (n' := n') rfl rfl ?_
  rintro _ _ ⟨rfl, rfl⟩
  show Go _ _ _ _ _ _ _ _ _ _ [(.int (1 : Int32))]
  refine Go.ifYes C d19_102 (by decide) (q := 108) rfl (XT.i0_ne_t (by decide)) ?_
  refine Go.pick (M' := (tE t0 .null .null (D 0) (nx1 0) (p1 0) (s 0) :: tE t1 .null .null (D 1) (nx1 1) (p1 1) (s 1) :: tE t2 .null .null (D 2) (nx1 2) (p1 2) (s 2) :: wE w rA sh dm bt sA fA cA tk rc :: aS sA vs1 :: aF fA fs1 :: aI cA cs1 :: aT rA rv :: LS1)) 8 [1, 2, 0, 3, 4, 5, 6, 7] (by decide) (by decide) rfl ?_
  refine Go.goto C d19_108 (by decide) (q := 0) rfl ?_
  exact hk p1 nx1 vs1 fs1 cs1 LS1 B1 hI1 hY1 hF1 hp1 hn1
def Geo (sn : Nat) (dm : Int64) (n b : Nat) (zs : Nat → Nat) : Prop := 1 ≤ sn ∧ sn ≤ 8 ∧ dm.toBitVec.toNat = 2 ^ sn - 1 ∧ b ≤ 63 ∧ ∀ t D, t < 2 ^ b → D < 2 ^ b → own_lvl sn t D < n ∧ D / 2 ^ (own_lvl sn t D * sn) % 2 ^ sn < zs (own_lvl sn t D)
theorem own_lexmin : ∀ (B : List Bk), B ≠ [] → ∃ b ∈ B, ∀ b' ∈ B, b.1 < b'.1 ∨ (b.1 = b'.1 ∧ b.2.1 ≤ b'.2.1)
  | [], h => absurd rfl h
  | [b], _ => ⟨b, by simp, fun b' hb' => by rw [List.mem_singleton.mp hb']; exact Or.inr ⟨rfl, Nat.le_refl _⟩⟩
  | b :: c :: r, _ => by
    obtain ⟨x, hx, h⟩ := own_lexmin (c :: r) (by simp)
    by_cases q : b.1 < x.1 ∨ (b.1 = x.1 ∧ b.2.1 ≤ x.2.1)
    · refine ⟨b, List.mem_cons_self .., fun b' hb' => ?_⟩
      rcases List.mem_cons.mp hb' with rfl | hb'
      · exact Or.inr ⟨rfl, Nat.le_refl _⟩
      · have := h b' hb'
        omega
    · refine ⟨x, List.mem_cons_of_mem _ hx, fun b' hb' => ?_⟩
      rcases List.mem_cons.mp hb' with rfl | hb'
      · omega
      · exact h b' hb'
theorem own_lvl0 {sn D : Nat} : own_lvl sn D D = 0 := by
  unfold own_lvl
  rw [Nat.xor_self]
  have : Nat.log2 (0 ||| 1) = 0 := by decide
  rw [this, Nat.zero_div]
theorem own_ev0 {sn D : Nat} : own_ev sn 0 D = D := by simp [own_ev]
/-- same level and same digit: the same quotient -/
theorem own_same {sn t D D' l : Nat} (h1 : D / 2 ^ ((l + 1) * sn) = t / 2 ^ ((l + 1) * sn)) (h2 : D' / 2 ^ ((l + 1) * sn) = t / 2 ^ ((l + 1) * sn)) (hd : D / 2 ^ (l * sn) % 2 ^ sn = D' / 2 ^ (l * sn) % 2 ^ sn) : D / 2 ^ (l * sn) = D' / 2 ^ (l * sn) := by
  have hls : (l + 1) * sn = l * sn + sn := Nat.succ_mul l sn
  rw [hls, Nat.pow_add, ← Nat.div_div_eq_div_mul, ← Nat.div_div_eq_div_mul] at h1 h2
  have a1 := Nat.div_add_mod (D / 2 ^ (l * sn)) (2 ^ sn)
  have a2 := Nat.div_add_mod (D' / 2 ^ (l * sn)) (2 ^ sn)
  rw [← a1, ← a2, h1, h2, hd]
theorem own_diglt {sn t D D' l : Nat} (h1 : D / 2 ^ ((l + 1) * sn) = t / 2 ^ ((l + 1) * sn)) (h2 : D' / 2 ^ ((l + 1) * sn) = t / 2 ^ ((l + 1) * sn)) (hd : D / 2 ^ (l * sn) % 2 ^ sn < D' / 2 ^ (l * sn) % 2 ^ sn) : D < D' := by
  have hls : (l + 1) * sn = l * sn + sn := Nat.succ_mul l sn
  rw [hls, Nat.pow_add, ← Nat.div_div_eq_div_mul, ← Nat.div_div_eq_div_mul] at h1 h2
  have a1 := Nat.div_add_mod (D / 2 ^ (l * sn)) (2 ^ sn)
  have a2 := Nat.div_add_mod (D' / 2 ^ (l * sn)) (2 ^ sn)
  rw [h1] at a1
  rw [h2] at a2
  refine Nat.lt_of_not_le fun q => ?_
  have := Nat.div_le_div_right (c := 2 ^ (l * sn)) q
  omega
theorem own_digle {sn t D l : Nat} (h0 : t ≤ D) (h1 : D / 2 ^ ((l + 1) * sn) = t / 2 ^ ((l + 1) * sn)) : t / 2 ^ (l * sn) % 2 ^ sn ≤ D / 2 ^ (l * sn) % 2 ^ sn := by
  refine Nat.le_of_not_lt fun q => ?_
  have := own_diglt h1.symm.symm.symm.symm rfl (t := t) (D := D) (D' := t) q
  omega
/-- what the buckets say of deadlines -/
theorem own_bk {sn b n : Nat} {dm tk : Int64} {zs : Nat → Nat} {T : Nat → Addr} {D : Nat → Int64} {dN : Nat → Nat} {p nx : Nat → Value} {B : List Bk} {R ks : List Nat} {H : Nat → Nat → Value} {W : Nat → Nat → Int64} {t : Nat} {bt : Int32} (hG : Geo sn dm n b zs) (hZ : Zs (Int32.ofNat sn) bt n zs) (hD : ∀ i, i < 3 → (D i).toInt = dN i ∧ dN i < 2 ^ b) (ht : tk.toInt = t) (hC : InvC T (Int32.ofNat sn) dm tk n zs D p nx B R ks H W) {x : Bk} (hx : x ∈ B) {i : Nat} (hi : i ∈ x.2.2) : x.1 = own_lvl sn t (dN i) ∧ x.2.1 = dN i / 2 ^ (x.1 * sn) % 2 ^ sn ∧ i < 3 := by
  have hi3 : i < 3 := hC.lt3 (List.mem_append_left _ (own_fl_mem hx hi))
  obtain ⟨g1, g2, -, -, g6⟩ := hC.2.2.2.2.1 x hx
  have h1 := hC.2.1 _ g1
  have h2 := (hZ.2.2 _ h1).2
  have h3 := hZ.1
  obtain ⟨e1, e2⟩ := own_Pc_inj (hD i hi3).1 ht hG.1 hG.2.1 hG.2.2.1 (by omega) (by omega) (g6 i hi)
  exact ⟨e1, e2, hi3⟩
theorem own_place2 {sn b n : Nat} {dm tk : Int64} {zs : Nat → Nat} {D : Nat → Int64} {dN : Nat → Nat} {t : Nat} (hG : Geo sn dm n b zs) (hD : ∀ i, i < 3 → (D i).toInt = dN i ∧ dN i < 2 ^ b) (ht : tk.toInt = t) (htb : t < 2 ^ b) {i : Nat} (hi : i < 3) : own_lvl sn t (dN i) < n ∧ dN i / 2 ^ (own_lvl sn t (dN i) * sn) % 2 ^ sn < zs (own_lvl sn t (dN i)) ∧ Pc (Int32.ofNat sn) dm tk (D i) (own_lvl sn t (dN i)) (dN i / 2 ^ (own_lvl sn t (dN i) * sn) % 2 ^ sn) :=
  have h := hG.2.2.2.2 t (dN i) htb (hD i hi).2
  ⟨h.1, h.2, own_Pc2 (hD i hi).1 ht hG.1 hG.2.1 hG.2.2.1⟩
def own_mu (sn t : Nat) (dN : Nat → Nat) (Y : List Nat) : Nat := (Y.map fun i => own_lvl sn t (dN i) + 1).sum
theorem own_mu_perm {sn t : Nat} {dN : Nat → Nat} {Y Y' : List Nat} (h : Y.Perm Y') : own_mu sn t dN Y = own_mu sn t dN Y' := (h.map _).sum_nat
theorem own_mu_app {sn t : Nat} {dN : Nat → Nat} {Y Y' : List Nat} : own_mu sn t dN (Y ++ Y') = own_mu sn t dN Y + own_mu sn t dN Y' := by simp [own_mu]
theorem own_mu_le {sn t t' : Nat} {dN : Nat → Nat} : ∀ {Y : List Nat}, (∀ i ∈ Y, own_lvl sn t' (dN i) ≤ own_lvl sn t (dN i)) → own_mu sn t' dN Y ≤ own_mu sn t dN Y
  | [], _ => Nat.le_refl _
  | a :: r, h => by
    have h1 := h a (List.mem_cons_self ..)
    have h2 := own_mu_le (Y := r) fun i hi => h i (List.mem_cons_of_mem _ hi)
    simp only [own_mu, List.map_cons, List.sum_cons] at *
    omega
theorem own_mu_lt {sn t t' : Nat} {dN : Nat → Nat} {s : Nat → Int32} : ∀ {Y : List Nat}, Y ≠ [] → (∀ i ∈ Y, own_lvl sn t' (dN i) < own_lvl sn t (dN i)) → own_mu sn t' dN (own_lf s Y) < own_mu sn t dN Y
  | [], h, _ => absurd rfl h
  | [a], _, h => by
    have h1 := h a (by simp)
    unfold own_lf own_mu
    by_cases q : s a = 1 <;> simp [q] <;> omega
  | a :: b :: r, _, h => by
    have h1 := h a (by simp)
    have h2 := own_mu_lt (s := s) (Y := b :: r) (by simp) fun i hi => h i (List.mem_cons_of_mem _ hi)
    have e : own_mu sn t dN (a :: b :: r) = own_lvl sn t (dN a) + 1 + own_mu sn t dN (b :: r) := by simp [own_mu]
    have e' : own_mu sn t' dN (own_lf s (a :: b :: r)) ≤ own_lvl sn t' (dN a) + 1 + own_mu sn t' dN (own_lf s (b :: r)) := by
      by_cases q : s a = 1
      · have : own_lf s (a :: b :: r) = own_lf s (b :: r) := by simp [own_lf, q]
        rw [this]; omega
      · have : own_lf s (a :: b :: r) = a :: own_lf s (b :: r) := by simp [own_lf, q]
        rw [this]; simp [own_mu]
    omega
theorem own_insLnd {n : Nat} (ls : List Nat) : ∀ ks : List Nat, ks.Nodup → (∀ l ∈ ks, l < n) → (∀ l ∈ ls, l < n) → (own_insL ks ls).Nodup ∧ ∀ l ∈ own_insL ks ls, l < n := by
  induction ls with
  | nil => intro ks h1 h2 _; exact ⟨h1, h2⟩
  | cons l r ih =>
    intro ks h1 h2 h3
    show (own_insL (own_ins ks l) r).Nodup ∧ ∀ x ∈ own_insL (own_ins ks l) r, x < n
    refine ih (own_ins ks l) ?_ ?_ (fun x hx => h3 x (List.mem_cons_of_mem _ hx))
    · unfold own_ins
      split
      · exact h1
      · rename_i q; exact List.nodup_cons.mpr ⟨q, h1⟩
    · unfold own_ins
      split
      · exact h2
      · intro x hx
        rcases List.mem_cons.mp hx with rfl | hx
        · exact h3 x (List.mem_cons_self ..)
        · exact h2 x hx
theorem own_lfm {s : Nat → Int32} {c : List Nat} {x : Nat} (h : x ∈ own_lf s c) : x ∈ c := (List.mem_filter.mp h).1
section Poll
variable {t0 t1 t2 w sA fA cA rA : Addr} {dm : Int64} {bt rc : Int32} {rv : List Value} {D : Nat → Int64} {s : Nat → Int32} {n b sn g : Nat} {zs : Nat → Nat} {dN : Nat → Nat} {tg : Int64} {E : E0} {Q : PQ}
theorem own_poll (l : Launch) (Z : State) (a0 : Array Value) (hw : HW Z a0) (hZ : Zs (Int32.ofNat sn) bt n zs) (hG : Geo sn dm n b zs) (hsum : ∀ ks : List Nat, ks.Nodup → (∀ l ∈ ks, l < n) → 2 * ks.length ≤ 126 ∧ own_sum zs ks ≤ 2080) (hD : ∀ i, i < 3 → (D i).toInt = dN i ∧ dN i < 2 ^ b) (htg : tg.toInt = g) (hgb : g < 2 ^ b) (hT : ∀ a b, a < 3 → b < 3 → a ≠ b → own_t3 t0 t1 t2 a ≠ own_t3 t0 t1 t2 b) (hlive : ∃ i, i < 3 ∧ ¬ s i = 1) (C : Cx Z yN25 prog_12_method_5_code 8 (some (.object "com/example/charkha/charkha/Timeout")) E)
    (hqA : ∀ (tk : Int64) (p nx : Nat → Value) (vs fs cs : List Value) (LS : List Ent) (B : List Bk) (R ks : List Nat), InvK (own_t3 t0 t1 t2) (Int32.ofNat sn) dm tk n zs D p nx vs fs cs LS B R ks → tk.toInt = g → (∀ j ∈ R, p j = .null ∧ nx j = .null) → (∀ i ∈ own_fl B, g < dN i) → (∀ i, i < 3 → ¬ s i = 1 → i ∈ own_fl B) → Q (some .null) (WM t0 t1 t2 w sA fA cA rA (Int32.ofNat sn) dm bt rc tk rv D s p nx vs fs cs LS))
    (hqC : ∀ (tk : Int64) (p nx : Nat → Value) (vs fs cs : List Value) (LS : List Ent) (B : List Bk) (R ks : List Nat) (x : Nat), InvK (own_t3 t0 t1 t2) (Int32.ofNat sn) dm tk n zs D p nx vs fs cs LS B R ks → tk.toInt = dN x → (∀ j ∈ R, p j = .null ∧ nx j = .null) → x < 3 → ¬ s x = 1 → x ∉ own_fl B → dN x ≤ g → (∀ i ∈ own_fl B, dN x ≤ dN i) → (∀ i, i < 3 → ¬ s i = 1 → i ≠ x → i ∈ own_fl B) → Q (some (.ref (own_t3 t0 t1 t2 x))) (WM t0 t1 t2 w sA fA cA rA (Int32.ofNat sn) dm bt rc tk rv D s p nx vs fs cs LS)) :
    ∀ (m : Nat) (tk : Int64) (t : Nat) (p nx : Nat → Value) (vs fs cs : List Value) (LS : List Ent) (B : List Bk) (R ks : List Nat) (k n' : Nat) (s3 s4 x5 x6 s7 : Slot), own_mu sn t dN (own_fl B) = m → InvK (own_t3 t0 t1 t2) (Int32.ofNat sn) dm tk n zs D p nx vs fs cs LS B R ks → tk.toInt = t → t ≤ g → (∀ i ∈ own_fl B, t ≤ dN i) → (∀ j ∈ R, p j = .null ∧ nx j = .null) → (∀ i, i < 3 → ¬ s i = 1 → i ∈ own_fl B) → k ≤ 2 * ks.length → n' ≤ own_sum zs ks → Pl s3 → Pl s4 → Pl s7 → ((x5 = .unset ∧ x6 = .unset) ∨ ∃ y : Int64, x5 = .val (.long y) ∧ x6 = .second) →
    Go l Z { frames := 8, cells := 126, slots := 2080, locals := 180 } E Q (WM t0 t1 t2 w sA fA cA rA (Int32.ofNat sn) dm bt rc tk rv D s p nx vs fs cs LS) k n' 0 #[.val (.ref w), .val (.long tg), .second, s3, s4, x5, x6, s7] [] := by
  intro m
  induction m using Nat.strongRecOn with
  | _ m ih =>
    intro tk t p nx vs fs cs LS B R ks k n' s3 s4 x5 x6 s7 hm hI ht htg' hfil hfree hlv hk hn p3 p4 p7 hv
    have hI0 := hI
    obtain ⟨sa, fa, H, W, evs, efs, ecs, eLS, hC⟩ := hI
    obtain ⟨hs1, hs8, hdm, hb63, hpl⟩ := hG
    have hG : Geo sn dm n b zs := ⟨hs1, hs8, hdm, hb63, hpl⟩
    have hn63 := hZ.1
    have htb : t < 2 ^ b := by omega
    have hrm := hsum ks hC.1 hC.2.1
    have hkK : k ≤ 126 := by omega
    have hnN : n' ≤ 2080 := by omega
    have hBne : B ≠ [] := by
      obtain ⟨i, hi, hl⟩ := hlive
      have := hlv i hi hl
      intro e
      rw [e] at this
      exact absurd this List.not_mem_nil
    obtain ⟨⟨lN, d, c⟩, hb, hlex⟩ := own_lexmin B hBne
    have hlex : ∀ b' ∈ B, lN < b'.1 ∨ (lN = b'.1 ∧ d ≤ b'.2.1) := hlex
    have hL : own_isLow B lN := ⟨⟨_, hb, rfl⟩, fun b' hb' => by have := hlex b' hb'; omega⟩
    have hmin : ∀ b' ∈ B, b'.1 = lN → d ≤ b'.2.1 := fun b' hb' e => by have := hlex b' hb'; omega
    obtain ⟨hkk, hdz, ⟨a, r, hcr, hHa⟩, hLk, -⟩ := hC.2.2.2.2.1 _ hb
    have hkk : lN ∈ ks := hkk
    have hdz : d < zs lN := hdz
    have hcr : c = a :: r := hcr
    have hHa : H lN d = .ref (own_t3 t0 t1 t2 a) := hHa
    have hlN : lN < n := hC.2.1 _ hkk
    have hz256 := (hZ.2.2 _ hlN).2
    have hac : a ∈ c := by rw [hcr]; exact List.mem_cons_self ..
    have hafl : a ∈ own_fl B := own_fl_mem hb hac
    obtain ⟨ea1, ea2, ha3⟩ := own_bk hG hZ hD ht hC hb hac
    have ea1 : lN = own_lvl sn t (dN a) := ea1
    have ea2 : d = dN a / 2 ^ (lN * sn) % 2 ^ sn := ea2
    have hta := hfil a hafl
    have hch := (own_lvl_eq (s := sn) (t := t) (D := dN a) hs1).mp ea1.symm
    have hl62 : lN * sn ≤ 62 := by
      have h1 := (own_lv_spec2 (own_xorI (hD a ha3).1 ht) hs1 hs8).2
      have h2 : own_lvl sn t (dN a) * sn ≤ _ := own_lvl_s
      rw [← ea1] at h2
      omega
    have hp8 : 2 ^ sn ≤ 2 ^ 8 := Nat.pow_le_pow_right (by decide) hs8
    have hpb : 2 ^ b ≤ 2 ^ 63 := Nat.pow_le_pow_right (by decide) hb63
    have hw256 : t / 2 ^ (lN * sn) % 2 ^ sn < 256 := Nat.lt_of_lt_of_le (Nat.mod_lt _ (Nat.two_pow_pos sn)) hp8
    have hdw := own_dg_spec2 (dm := dm) ht hs8 hdm hl62
    have hwd : t / 2 ^ (lN * sn) % 2 ^ sn ≤ d := by rw [ea2]; exact own_digle hta hch.1
    -- the event
    have hevD : own_ev sn lN (dN a) ≤ dN a := own_ev_le
    have hdNa := (hD a ha3).2
    have hspl := own_evsplit (s := sn) hch.1
    rw [← ea2] at hspl
    have hd2 : d < 2 ^ sn := by rw [ea2]; exact Nat.mod_lt _ (Nat.two_pow_pos sn)
    have hnt : (own_stk (Int32.ofNat sn) tk (Int32.ofNat lN) (Int32.ofNat d)).toInt = ((own_ev sn lN (dN a) : Nat) : Int) := by
      have h := own_stk_spec (l := lN) (d := d) ht hs1 hs8 hl62 hd2 rfl (by rw [hspl]; omega)
      rw [hspl] at h
      exact h
    obtain ⟨nt, hntE⟩ : ∃ nt, own_stk (Int32.ofNat sn) tk (Int32.ofNat lN) (Int32.ofNat d) = nt := ⟨_, rfl⟩
    rw [hntE] at hnt
    -- whoever waits elsewhere is due later
    have hsameq : ∀ i ∈ c, dN i / 2 ^ (lN * sn) = dN a / 2 ^ (lN * sn) := fun i hi => by
      obtain ⟨f1, f2, -⟩ := own_bk hG hZ hD ht hC hb hi
      have f1 : lN = own_lvl sn t (dN i) := f1
      have f2 : d = dN i / 2 ^ (lN * sn) % 2 ^ sn := f2
      have g1 := (own_lvl_eq (s := sn) (t := t) (D := dN i) hs1).mp f1.symm
      exact own_same g1.1 hch.1 (by rw [← f2, ← ea2])
    have hother : ∀ b' ∈ B, b' ≠ (lN, d, c) → ∀ i ∈ b'.2.2, dN a ≤ dN i ∧ (own_lvl sn t (dN i) ≠ lN ∨ dN i / 2 ^ (lN * sn) ≠ dN a / 2 ^ (lN * sn)) := fun b' hb' hne i hi => by
      obtain ⟨f1, f2, hi3⟩ := own_bk hG hZ hD ht hC hb' hi
      have hx := hlex b' hb'
      rcases hx with hx | ⟨hx, hx2⟩
      · refine ⟨Nat.le_of_not_lt fun q => ?_, Or.inl (by omega)⟩
        have := own_lvl_mono (s := sn) hs1 (hfil i (own_fl_mem hb' hi)) (Nat.le_of_lt q)
        omega
      · have hne2 : d ≠ b'.2.1 := fun e => hne (own_key hC hb hb' hx.symm e.symm)
        rw [← hx] at f1 f2
        have g1 := (own_lvl_eq (s := sn) (t := t) (D := dN i) hs1).mp f1.symm
        have hlt : dN a / 2 ^ (lN * sn) % 2 ^ sn < dN i / 2 ^ (lN * sn) % 2 ^ sn := by rw [← ea2, ← f2]; omega
        refine ⟨Nat.le_of_lt (own_diglt hch.1 g1.1 hlt), Or.inr fun e => ?_⟩
        rw [e] at hlt
        omega
    have hevi : ∀ i ∈ own_fl B, own_ev sn lN (dN a) ≤ own_ev sn (own_lvl sn t (dN i)) (dN i) := fun i hi => by
      obtain ⟨b', hb', hi'⟩ := List.mem_flatMap.mp hi
      by_cases e : b' = (lN, d, c)
      · subst e
        have f1 : lN = own_lvl sn t (dN i) := (own_bk hG hZ hD ht hC hb hi').1
        rw [← f1]
        unfold own_ev
        rw [hsameq i hi']
        exact Nat.le_refl _
      · have h := own_evmin (s := sn) hs1 hta (hother b' hb' e i hi').1
        rw [← ea1] at h
        exact h
    suffices h39 : Go l Z { frames := 8, cells := 126, slots := 2080, locals := 180 } E Q (WM t0 t1 t2 w sA fA cA rA (Int32.ofNat sn) dm bt rc tk rv D s p nx vs fs cs LS) k n' 39 #[.val (.ref w), .val (.long tg), .second, .val (.int (Int32.ofNat lN)), .val (.int (Int32.ofNat d)), .val (.long nt), .second, s7] [] by
      subst hntE
      rcases hv with ⟨rfl, rfl⟩ | ⟨y, rfl, rfl⟩
      · exact g_plHf l Z a0 hw C hkK hnN hn63 hZ hI0.inv hL hb hmin hdw hwd hw256 (own_nn (by omega)) rfl p3 p4 h39
      · exact g_plHs l Z a0 hw C hkK hnN hn63 hZ hI0.inv hL hb hmin hdw hwd hw256 (own_nn (by omega)) rfl p3 p4 h39
    by_cases hgt : tg < nt
    · refine g_plA l Z a0 hw C hkK hnN hgt ?_
      have hgt' := Int64.lt_iff_toInt_lt.mp hgt
      rw [htg, hnt] at hgt'
      have hmx : (own_mx tk tg).toInt = g := by
        unfold own_mx
        split
        · exact htg
        · rename_i q
          rw [Int64.lt_iff_toInt_lt, ht, htg] at q
          omega
      refine hqA (own_mx tk tg) p nx vs fs cs LS B R ks ⟨sa, fa, H, W, evs, efs, ecs, eLS, hC.tick fun b' hb' i hi => ?_⟩ hmx hfree (fun i hi => ?_) hlv
      · obtain ⟨f1, f2, hi3⟩ := own_bk hG hZ hD ht hC hb' hi
        have he := hevi i (own_fl_mem hb' hi)
        have hj := own_jump (s := sn) (t := t) (g := g) (D := dN i) hs1 htg' (by omega)
        have h := (own_place2 hG hD hmx hgb hi3).2.2
        rw [hj, ← f1, ← f2] at h
        exact h
      · have he := hevi i hi
        have : own_ev sn (own_lvl sn t (dN i)) (dN i) ≤ dN i := own_ev_le
        omega
    · have hle : own_ev sn lN (dN a) ≤ g := by
        rw [Int64.lt_iff_toInt_lt, htg, hnt] at hgt
        omega
      have hevb : own_ev sn lN (dN a) < 2 ^ b := by omega
      have htev : ∀ i ∈ own_fl B, own_ev sn lN (dN a) ≤ dN i := fun i hi => Nat.le_trans (hevi i hi) own_ev_le
      have hkeep : ∀ b' ∈ B, b' ≠ (lN, d, c) → ∀ i ∈ b'.2.2, own_lvl sn (own_ev sn lN (dN a)) (dN i) = own_lvl sn t (dN i) := fun b' hb' hne i hi => by
        obtain ⟨h1, h2⟩ := hother b' hb' hne i hi
        have h := own_keep (s := sn) hs1 hta h1 (by rw [← ea1]; exact h2)
        rw [← ea1] at h
        exact h
      by_cases hl0 : 0 < lN
      · have hlv0 : 0 < Int32.ofNat lN := by rw [Int32.lt_iff_toInt_lt, own_toN (by omega), Int32.toInt_zero]; omega
        have hneq : ∀ b' ∈ B.erase (lN, d, c), b' ≠ (lN, d, c) := fun b' hb' e => own_pw hC.2.2.2.2.2.1 hb hb' (by rw [e]; exact ⟨rfl, rfl⟩)
        have hoth : ∀ b' ∈ B.erase (lN, d, c), ∀ i ∈ b'.2.2, Pc (Int32.ofNat sn) dm nt (D i) b'.1 b'.2.1 := fun b' hb' i hi => by
          have hbB := List.mem_of_mem_erase hb'
          obtain ⟨f1, f2, hi3⟩ := own_bk hG hZ hD ht hC hbB hi
          have h := (own_place2 hG hD hnt hevb hi3).2.2
          rw [hkeep b' hbB (hneq b' hb') i hi, ← f1, ← f2] at h
          exact h
        have hPc : ∀ x ∈ c, (fun x => own_lvl sn (own_ev sn lN (dN a)) (dN x)) x < n ∧ (fun x => dN x / 2 ^ (own_lvl sn (own_ev sn lN (dN a)) (dN x) * sn) % 2 ^ sn) x < zs ((fun x => own_lvl sn (own_ev sn lN (dN a)) (dN x)) x) ∧ Pc (Int32.ofNat sn) dm nt (D x) ((fun x => own_lvl sn (own_ev sn lN (dN a)) (dN x)) x) ((fun x => dN x / 2 ^ (own_lvl sn (own_ev sn lN (dN a)) (dN x) * sn) % 2 ^ sn) x) := fun x hx => own_place2 hG hD hnt hevb (own_bk hG hZ hD ht hC hb hx).2.2
        have hdown : ∀ x ∈ c, own_lvl sn (own_ev sn lN (dN a)) (dN x) < own_lvl sn t (dN x) := fun x hx => by
          have f1 : lN = own_lvl sn t (dN x) := (own_bk hG hZ hD ht hC hb hx).1
          have h := own_down (s := sn) (t := t) (D0 := dN a) (D := dN x) hs1 (by rw [← ea1]; exact hl0) (by rw [← ea1]; exact hsameq x hx)
          rw [← ea1] at h
          rw [← f1]; exact h
        have hcc := own_cclen ((own_lf s c).map fun x => own_lvl sn (own_ev sn lN (dN a)) (dN x)) ks
        have hcz := own_czsum zs ((own_lf s c).map fun x => own_lvl sn (own_ev sn lN (dN a)) (dN x)) ks
        have hins := own_insLnd (n := n) ((own_lf s c).map fun x => own_lvl sn (own_ev sn lN (dN a)) (dN x)) ks hC.1 hC.2.1 (fun y hy => by
          obtain ⟨x, hx, rfl⟩ := List.mem_map.mp hy
          exact (hPc x (own_lfm hx)).1)
        have hs2 := hsum _ hins.1 hins.2
        refine g_plB l Z a0 hw C hgt hlv0 hZ hI0 hb hoth hPc hfree (by omega) (by omega) ?_
        intro p' nx' vs' fs' cs' LS' B' R' hI' hY' hF'
        have hYe := own_fl_erase hb
        refine ih _ ?_ nt (own_ev sn lN (dN a)) p' nx' vs' fs' cs' LS' B' R' _ _ _ _ _ _ _ s7 rfl hI' hnt hle ?_ hF' ?_ (by omega) (by omega) (Or.inr ⟨_, rfl, rfl⟩) (Or.inr ⟨_, rfl, rfl⟩) p7 (Or.inr ⟨nt, rfl, rfl⟩)
        · rw [← hm, own_mu_perm hY', own_mu_perm hYe, own_mu_app, own_mu_app]
          have h1 := own_mu_lt (s := s) (Y := c) (by rw [hcr]; simp) hdown
          have h2 : own_mu sn (own_ev sn lN (dN a)) dN (own_fl (B.erase (lN, d, c))) ≤ own_mu sn t dN (own_fl (B.erase (lN, d, c))) := own_mu_le fun i hi => by
            obtain ⟨b', hb', hi'⟩ := List.mem_flatMap.mp hi
            rw [hkeep b' (List.mem_of_mem_erase hb') (hneq b' hb') i hi']
            exact Nat.le_refl _
          show _ < own_mu sn t dN c + own_mu sn t dN (own_fl (B.erase (lN, d, c)))
          omega
        · intro i hi
          refine htev i (hYe.symm.subset ?_)
          rcases List.mem_append.mp (hY'.subset hi) with q | q
          · exact List.mem_append_left _ (own_lfm q)
          · exact List.mem_append_right _ q
        · intro i hi hl
          refine hY'.symm.subset ?_
          rcases List.mem_append.mp (hYe.subset (hlv i hi hl)) with q | q
          · exact List.mem_append_left _ (List.mem_filter.mpr ⟨q, by simpa using hl⟩)
          · exact List.mem_append_right _ q
      · obtain rfl : lN = 0 := by omega
        rw [own_ev0] at hnt hle hevb htev hkeep
        have hceq : ∀ i ∈ c, dN i = dN a := fun i hi => by
          have h := hsameq i hi
          simpa using h
        have hIn : InvK (own_t3 t0 t1 t2) (Int32.ofNat sn) dm nt n zs D p nx vs fs cs LS B R ks := ⟨sa, fa, H, W, evs, efs, ecs, eLS, hC.tick fun b' hb' i hi => by
          obtain ⟨f1, f2, hi3⟩ := own_bk hG hZ hD ht hC hb' hi
          have h := (own_place2 hG hD hnt hevb hi3).2.2
          by_cases e : b' = (0, d, c)
          · have hz : b'.1 = 0 := by rw [e]
            have hq : dN i = dN a := hceq i (by rw [e] at hi; exact hi)
            have hl : own_lvl sn (dN a) (dN i) = b'.1 := by rw [hq, own_lvl0, hz]
            rw [hl, ← f2] at h
            exact h
          · rw [hkeep b' hb' e i hi, ← f1, ← f2] at h
            exact h⟩
        refine g_plC1 l Z a0 hw C hgt (by decide) ?_
        subst evs efs ecs eLS
        refine Go.perm (own_pa (U := List.map (own_tc (own_t3 t0 t1 t2) D s p nx) [0, 1, 2]) (Xs := []) (X := List.map (own_tc (own_t3 t0 t1 t2) D s p nx) [0, 1, 2]) (List.Perm.refl _) (own_spk (f := own_ac sa zs H) (g := own_ac sa zs H) hC.1 hkk rfl (fun _ _ => rfl)) (own_spk (f := own_bc fa zs W) (g := own_bc fa zs W) hC.1 hkk rfl (fun _ _ => rfl))) ?_
        refine g_plC2 l Z a0 hw C (sl := sa 0) (a := own_t3 t0 t1 t2 a) (by
          show (own_rm n (own_rf ks sa))[0]? = _
          rw [own_rm_get hlN, own_rf, if_pos hkk]) (own_nn (by omega)) (by rw [own_cl (by omega), own_rm_get hdz, hHa]) p7 ?_
        refine Go.perm (own_pa (U := List.map (own_tc (own_t3 t0 t1 t2) D s p nx) [0, 1, 2]) (Xs := []) (X := List.map (own_tc (own_t3 t0 t1 t2) D s p nx) [0, 1, 2]) (List.Perm.refl _) (own_spk (f := own_ac sa zs H) (g := own_ac sa zs H) hC.1 hkk rfl (fun _ _ => rfl)) (own_spk (f := own_bc fa zs W) (g := own_bc fa zs W) hC.1 hkk rfl (fun _ _ => rfl))).symm ?_
        have hY : (own_fl B).Perm (a :: (own_fl B).erase a) := List.perm_cons_erase hafl
        have hndB := (List.nodup_append.mp hC.nd).1
        have hfree' : ∀ (p' nx' : Nat → Value), (∀ j ∈ R, p' j = p j ∧ nx' j = nx j) → p' a = .null → nx' a = .null → ∀ j ∈ a :: R, p' j = .null ∧ nx' j = .null := fun p' nx' hfr h1 h2 j hj => by
          rcases List.mem_cons.mp hj with rfl | hj
          · exact ⟨h1, h2⟩
          · rw [(hfr j hj).1, (hfr j hj).2]; exact hfree j hj
        have hsub : ∀ {B' : List Bk}, (own_fl B').Perm ((own_fl B).erase a) → ∀ i ∈ own_fl B', dN a ≤ dN i := fun h i hi => htev i (List.mem_of_mem_erase (h.subset hi))
        have hlv' : ∀ {B' : List Bk}, (own_fl B').Perm ((own_fl B).erase a) → ∀ i, i < 3 → ¬ s i = 1 → i ≠ a → i ∈ own_fl B' := fun h i hi hl hne => h.symm.subset ((List.mem_erase_of_ne hne).mpr (hlv i hi hl))
        by_cases hl : s a = 1
        · have go := fun (p' nx' : Nat → Value) (vs' fs' cs' : List Value) (LS' : List Ent) (B' : List Bk) (hI' : InvK (own_t3 t0 t1 t2) (Int32.ofNat sn) dm nt n zs D p' nx' vs' fs' cs' LS' B' (a :: R) ks) (hY' : (own_fl B').Perm ((own_fl B).erase a)) (hfr : ∀ j ∈ R, p' j = p j ∧ nx' j = nx j) (hp' : p' a = .null) (hn' : nx' a = .null) => ih (own_mu sn (dN a) dN (own_fl B')) (by
            have h1 := own_mu_perm (sn := sn) (t := t) (dN := dN) hY
            have h2 := own_mu_perm (sn := sn) (t := dN a) (dN := dN) hY'
            have h3 : own_mu sn t dN (a :: (own_fl B).erase a) = own_lvl sn t (dN a) + 1 + own_mu sn t dN ((own_fl B).erase a) := by simp [own_mu]
            have h4 : own_mu sn (dN a) dN ((own_fl B).erase a) ≤ own_mu sn t dN ((own_fl B).erase a) := own_mu_le fun i hi => by
              obtain ⟨b', hb', hi'⟩ := List.mem_flatMap.mp (List.mem_of_mem_erase hi)
              by_cases e : b' = (0, d, c)
              · rw [hceq i (by rw [e] at hi'; exact hi'), own_lvl0]; exact Nat.zero_le _
              · rw [hkeep b' hb' e i hi']; exact Nat.le_refl _
            omega) nt (dN a) p' nx' vs' fs' cs' LS' B' (a :: R) ks k n' (.val (.int (Int32.ofNat 0))) (.val (.int (Int32.ofNat d))) (.val (.long nt)) .second (.val (.ref (own_t3 t0 t1 t2 a))) rfl hI' hnt hle (hsub hY') (hfree' p' nx' hfr hp' hn') (fun i hi hli => hlv' hY' i hi hli (fun e => hli (e ▸ hl))) hk hn (Or.inr ⟨_, rfl, rfl⟩) (Or.inr ⟨_, rfl, rfl⟩) (Or.inr ⟨_, rfl, rfl⟩) (Or.inr ⟨nt, rfl, rfl⟩)
          obtain rfl | rfl | rfl : a = 0 ∨ a = 1 ∨ a = 2 := by omega
          · exact g_plD0 l Z a0 hw C hkK hnN hZ hIn hY hT hl go
          · exact g_plD1 l Z a0 hw C hkK hnN hZ hIn hY hT hl go
          · exact g_plD2 l Z a0 hw C hkK hnN hZ hIn hY hT hl go
        · have go := fun (p' nx' : Nat → Value) (vs' fs' cs' : List Value) (LS' : List Ent) (B' : List Bk) (hI' : InvK (own_t3 t0 t1 t2) (Int32.ofNat sn) dm nt n zs D p' nx' vs' fs' cs' LS' B' (a :: R) ks) (hY' : (own_fl B').Perm ((own_fl B).erase a)) (hfr : ∀ j ∈ R, p' j = p j ∧ nx' j = nx j) (hp' : p' a = .null) (hn' : nx' a = .null) => hqC nt p' nx' vs' fs' cs' LS' B' (a :: R) ks a hI' hnt (hfree' p' nx' hfr hp' hn') ha3 hl (fun h => (hndB.mem_erase_iff.mp (hY'.subset h)).1 rfl) hle (hsub hY') (hlv' hY')
          obtain rfl | rfl | rfl : a = 0 ∨ a = 1 ∨ a = 2 := by omega
          · exact g_plC3 l Z a0 hw C hkK hnN hZ hIn hY hT hl go
          · exact g_plC4 l Z a0 hw C hkK hnN hZ hIn hY hT hl go
          · exact g_plC5 l Z a0 hw C hkK hnN hZ hIn hY hT hl go
end Poll
theorem pn_19 : plainFor yN25 = true := by first | (apply plainFor_of_name; simp [plainName, overriddenIn]; done) | decide +kernel
section Poll3
variable {t0 t1 t2 w sA fA cA rA : Addr} {dm : Int64} {bt rc : Int32} {rv : List Value} {D : Nat → Int64} {s : Nat → Int32} {n b sn g t : Nat} {zs : Nat → Nat} {dN : Nat → Nat} {tg tk : Int64} {p nx : Nat → Value} {vs fs cs : List Value} {LS : List Ent} {B : List Bk} {R ks : List Nat}
theorem own_pollM (l : Launch) (Z : State) (a0 : Array Value) (hw : HW Z a0) (hZ : Zs (Int32.ofNat sn) bt n zs) (hG : Geo sn dm n b zs) (hsum : ∀ ks : List Nat, ks.Nodup → (∀ l ∈ ks, l < n) → 2 * ks.length ≤ 126 ∧ own_sum zs ks ≤ 2080) (hD : ∀ i, i < 3 → (D i).toInt = dN i ∧ dN i < 2 ^ b) (htg : tg.toInt = g) (hgb : g < 2 ^ b) (hT : ∀ a b, a < 3 → b < 3 → a ≠ b → own_t3 t0 t1 t2 a ≠ own_t3 t0 t1 t2 b) (hlive : ∃ i, i < 3 ∧ ¬ s i = 1)
    (hI : InvK (own_t3 t0 t1 t2) (Int32.ofNat sn) dm tk n zs D p nx vs fs cs LS B R ks) (ht : tk.toInt = t) (htg' : t ≤ g) (hfil : ∀ i ∈ own_fl B, t ≤ dN i) (hfree : ∀ j ∈ R, p j = .null ∧ nx j = .null) (hlv : ∀ i, i < 3 → ¬ s i = 1 → i ∈ own_fl B) :
    Met l Z yN25 prog_12_method_5_code 8 (some (.object "com/example/charkha/charkha/Timeout")) { frames := 8, cells := 126, slots := 2080, locals := 180 } #[.ref w, .long tg] (WM t0 t1 t2 w sA fA cA rA (Int32.ofNat sn) dm bt rc tk rv D s p nx vs fs cs LS)
      (fun r M' => ∃ v tk' p' nx' vs' fs' cs' LS' B' R' ks', r = some v ∧ v.isRef = true ∧ M' = WM t0 t1 t2 w sA fA cA rA (Int32.ofNat sn) dm bt rc tk' rv D s p' nx' vs' fs' cs' LS' ∧ InvK (own_t3 t0 t1 t2) (Int32.ofNat sn) dm tk' n zs D p' nx' vs' fs' cs' LS' B' R' ks' ∧ (∀ j ∈ R', p' j = .null ∧ nx' j = .null) ∧
        ((tk'.toInt = g ∧ (∀ i ∈ own_fl B', g < dN i) ∧ (∀ i, i < 3 → ¬ s i = 1 → i ∈ own_fl B')) ∨ ∃ x, tk'.toInt = dN x ∧ x < 3 ∧ ¬ s x = 1 ∧ x ∉ own_fl B' ∧ dN x ≤ g ∧ (∀ i ∈ own_fl B', dN x ≤ dN i) ∧ (∀ i, i < 3 → ¬ s i = 1 → i ≠ x → i ∈ own_fl B'))) := by
  refine Met.of_go pn_19 (Ls := #[.val (.ref w), .val (.long tg), .second, .unset, .unset, .unset, .unset, .unset]) (fun m => rfl) ?_
  intro E C
  exact own_poll l Z a0 hw hZ hG hsum hD htg hgb hT hlive C (fun tk' p' nx' vs' fs' cs' LS' B' R' ks' h1 h2 h3 h4 h5 => ⟨_, tk', p', nx', vs', fs', cs', LS', B', R', ks', rfl, rfl, rfl, h1, h3, Or.inl ⟨h2, h4, h5⟩⟩) (fun tk' p' nx' vs' fs' cs' LS' B' R' ks' x h1 h2 h3 h4 h5 h6 h7 h8 h9 => ⟨_, tk', p', nx', vs', fs', cs', LS', B', R', ks', rfl, rfl, rfl, h1, h3, Or.inr ⟨x, h2, h4, h5, h6, h7, h8, h9⟩⟩) _ tk t p nx vs fs cs LS B R ks 0 0 .unset .unset .unset .unset .unset rfl hI ht htg' hfil hfree hlv (Nat.zero_le _) (Nat.zero_le _) (Or.inl rfl) (Or.inl rfl) (Or.inl rfl) (Or.inl ⟨rfl, rfl⟩)
/-- what nextEvent meets -/
theorem own_head {m : Nat} (hZ : Zs (Int32.ofNat sn) bt n zs) (hG : Geo sn dm n b zs) (hD : ∀ i, i < 3 → (D i).toInt = dN i ∧ dN i < 2 ^ b) (hI : InvK (own_t3 t0 t1 t2) (Int32.ofNat sn) dm tk n zs D p nx vs fs cs LS B R ks) (ht : tk.toInt = t) (hfil : ∀ i ∈ own_fl B, t ≤ dN i) (hm : ∃ i ∈ own_fl B, dN i = m) (hmin : ∀ i ∈ own_fl B, m ≤ dN i) :
    ∃ lN d c w0, own_isLow B lN ∧ (lN, d, c) ∈ B ∧ (∀ b ∈ B, b.1 = lN → d ≤ b.2.1) ∧ own_dg (Int32.ofNat sn) dm tk (Int32.ofNat lN) = Int32.ofNat w0 ∧ w0 ≤ d ∧ w0 < 256 ∧ lN < n ∧ (own_stk (Int32.ofNat sn) tk (Int32.ofNat lN) (Int32.ofNat d)).toInt = ((own_ev sn (own_lvl sn t m) m : Nat) : Int) := by
  obtain ⟨sa, fa, H, W, evs, efs, ecs, eLS, hC⟩ := hI
  obtain ⟨hs1, hs8, hdm, hb63, hpl⟩ := hG
  have hG : Geo sn dm n b zs := ⟨hs1, hs8, hdm, hb63, hpl⟩
  have hn63 := hZ.1
  have hBne : B ≠ [] := by
    obtain ⟨i, hi, -⟩ := hm
    intro e
    rw [e] at hi
    exact absurd hi List.not_mem_nil
  obtain ⟨⟨lN, d, c⟩, hb, hlex⟩ := own_lexmin B hBne
  have hlex : ∀ b' ∈ B, lN < b'.1 ∨ (lN = b'.1 ∧ d ≤ b'.2.1) := hlex
  have hL : own_isLow B lN := ⟨⟨_, hb, rfl⟩, fun b' hb' => by have := hlex b' hb'; omega⟩
  have hmin' : ∀ b' ∈ B, b'.1 = lN → d ≤ b'.2.1 := fun b' hb' e => by have := hlex b' hb'; omega
  obtain ⟨hkk, hdz, ⟨a, r, hcr, hHa⟩, hLk, -⟩ := hC.2.2.2.2.1 _ hb
  have hkk : lN ∈ ks := hkk
  have hcr : c = a :: r := hcr
  have hlN : lN < n := hC.2.1 _ hkk
  have hac : a ∈ c := by rw [hcr]; exact List.mem_cons_self ..
  have hafl : a ∈ own_fl B := own_fl_mem hb hac
  obtain ⟨ea1, ea2, ha3⟩ := own_bk hG hZ hD ht hC hb hac
  have ea1 : lN = own_lvl sn t (dN a) := ea1
  have ea2 : d = dN a / 2 ^ (lN * sn) % 2 ^ sn := ea2
  have hta := hfil a hafl
  have hch := (own_lvl_eq (s := sn) (t := t) (D := dN a) hs1).mp ea1.symm
  have hl62 : lN * sn ≤ 62 := by
    have h1 := (own_lv_spec2 (own_xorI (hD a ha3).1 ht) hs1 hs8).2
    have h2 : own_lvl sn t (dN a) * sn ≤ _ := own_lvl_s
    rw [← ea1] at h2
    omega
  have hp8 : 2 ^ sn ≤ 2 ^ 8 := Nat.pow_le_pow_right (by decide) hs8
  have hpb : 2 ^ b ≤ 2 ^ 63 := Nat.pow_le_pow_right (by decide) hb63
  have hevD : own_ev sn lN (dN a) ≤ dN a := own_ev_le
  have hdNa := (hD a ha3).2
  have hspl := own_evsplit (s := sn) hch.1
  rw [← ea2] at hspl
  have hd2 : d < 2 ^ sn := by rw [ea2]; exact Nat.mod_lt _ (Nat.two_pow_pos sn)
  have hnt : (own_stk (Int32.ofNat sn) tk (Int32.ofNat lN) (Int32.ofNat d)).toInt = ((own_ev sn lN (dN a) : Nat) : Int) := by
    have h := own_stk_spec (l := lN) (d := d) ht hs1 hs8 hl62 hd2 rfl (by rw [hspl]; omega)
    rw [hspl] at h
    exact h
  refine ⟨lN, d, c, t / 2 ^ (lN * sn) % 2 ^ sn, hL, hb, hmin', own_dg_spec2 (dm := dm) ht hs8 hdm hl62, by rw [ea2]; exact own_digle hta hch.1, Nat.lt_of_lt_of_le (Nat.mod_lt _ (Nat.two_pow_pos sn)) hp8, hlN, ?_⟩
  rw [hnt]
  obtain ⟨i0, hi0, e0⟩ := hm
  have h1 : own_ev sn (own_lvl sn t m) m ≤ own_ev sn lN (dN a) := by
    have h := own_evmin (s := sn) (t := t) (D0 := m) (D := dN a) hs1 (by rw [← e0]; exact hfil i0 hi0) (hmin a hafl)
    rw [← ea1] at h
    exact h
  have h2 : own_ev sn lN (dN a) ≤ own_ev sn (own_lvl sn t m) m := by
    rw [← e0]
    obtain ⟨b', hb', hi'⟩ := List.mem_flatMap.mp hi0
    obtain ⟨f1, f2, hi3⟩ := own_bk hG hZ hD ht hC hb' hi'
    have g1 := (own_lvl_eq (s := sn) (t := t) (D := dN i0) hs1).mp rfl
    rcases hlex b' hb' with hx | ⟨hx, hx2⟩
    · have hle : dN a ≤ dN i0 := Nat.le_of_not_lt fun q => by
        have := own_lvl_mono (s := sn) hs1 (hfil i0 hi0) (Nat.le_of_lt q)
        omega
      have h := own_evmin (s := sn) hs1 hta hle
      rw [← ea1] at h
      exact h
    · rw [← hx] at f1 f2
      rw [← f1] at g1 ⊢
      by_cases q : d = b'.2.1
      · have e : dN i0 / 2 ^ (lN * sn) = dN a / 2 ^ (lN * sn) := own_same g1.1 hch.1 (by rw [← f2, ← ea2, q])
        unfold own_ev
        rw [e]
        exact Nat.le_refl _
      · have hlt : dN a / 2 ^ (lN * sn) % 2 ^ sn < dN i0 / 2 ^ (lN * sn) % 2 ^ sn := by rw [← ea2, ← f2]; omega
        exact Nat.mul_le_mul_right _ (Nat.div_le_div_right (Nat.le_of_lt (own_diglt hch.1 g1.1 hlt)))
  have : own_ev sn lN (dN a) = own_ev sn (own_lvl sn t m) m := Nat.le_antisymm h2 h1
  rw [this]
end Poll3
theorem own_fc0 (ks : List Nat) (l : Nat) : 0 + own_fc ks l ≤ 2 := by
  unfold own_fc
  split <;> omega
theorem own_fz0 {zs : Nat → Nat} (ks : List Nat) {l : Nat} (h : zs l ≤ 256) : 0 + own_fz zs ks l ≤ 260 := by
  unfold own_fz own_cost
  split <;> omega
theorem InvK.updD {T : Nat → Addr} {sh : Int32} {dm tk : Int64} {n : Nat} {zs : Nat → Nat} {D : Nat → Int64} {p nx : Nat → Value} {vs fs cs : List Value} {LS : List Ent} {B : List Bk} {R ks : List Nat} {i : Nat} {v : Int64} (hI : InvK T sh dm tk n zs D p nx vs fs cs LS B R ks) (hi : i ∈ R) : InvK T sh dm tk n zs (own_upd D i v) p nx vs fs cs LS B R ks := by
  obtain ⟨sa, fa, H, W, h1, h2, h3, h4, hC⟩ := hI
  refine ⟨sa, fa, H, W, h1, h2, h3, h4, hC.congrD fun j hj => own_upd_n fun e => ?_⟩
  exact (List.nodup_append.mp hC.nd).2.2 j hj i hi e
theorem d20_0 : decode prog_12_method_2_code 0 = .ok (.aload_n 1, 1) := by decide +kernel
theorem d20_1 : decode prog_12_method_2_code 1 = .ok (.lload_n 2, 1) := by decide +kernel
theorem d20_2 : decode prog_12_method_2_code 2 = .ok (.aload_n 0, 1) := by decide +kernel
theorem d20_3 : decode prog_12_method_2_code 3 = .ok (.getfield 47, 3) := by decide +kernel
theorem d20_6 : decode prog_12_method_2_code 6 = .ok (.lconst 1, 1) := by decide +kernel
theorem d20_7 : decode prog_12_method_2_code 7 = .ok (.ladd, 1) := by decide +kernel
theorem d20_8 : decode prog_12_method_2_code 8 = .ok (.invokestatic 50, 3) := by decide +kernel
theorem d20_11 : decode prog_12_method_2_code 11 = .ok (.putfield 56, 3) := by decide +kernel
theorem d20_14 : decode prog_12_method_2_code 14 = .ok (.aload_n 0, 1) := by decide +kernel
theorem d20_15 : decode prog_12_method_2_code 15 = .ok (.aload_n 1, 1) := by decide +kernel
theorem d20_16 : decode prog_12_method_2_code 16 = .ok (.invokevirtual 59, 3) := by decide +kernel
theorem d20_19 : decode prog_12_method_2_code 19 = .ok (.return_, 1) := by decide +kernel
theorem pn_20 : plainFor yN10 = true := by first | (apply plainFor_of_name; simp [plainName, overriddenIn]; done) | decide +kernel
theorem m_add0 (l : Launch) (Z : State) (a0 : Array Value) (hw : HW Z a0) {t0 t1 t2 : Addr} {w sA fA cA rA : Addr} {sh : Int32} {dm : Int64} {bt rc : Int32} {tk : Int64} {rv : List Value} {D : Nat → Int64} {s : Nat → Int32} {p nx : Nat → Value} {vs fs cs : List Value} {LS : List Ent} {n : Nat} {zs : Nat → Nat} {B : List Bk} {R ks : List Nat} {e : Int64} {lN d : Nat} (hZ : Zs sh bt n zs) (hI : InvK (own_t3 t0 t1 t2) sh dm tk n zs D p nx vs fs cs LS B R ks) (hiR : 0 ∈ R) (hl : lN < n) (hd : d < zs lN) (hP : Pc sh dm tk (own_mx e (tk + (1 : Int64))) lN d) :
    Met l Z yN10 prog_12_method_2_code 4 none { frames := 7, cells := 2, slots := 260, locals := 150 } #[(.ref w), (.ref t0), (.long e)] (tE t0 .null .null (D 0) (nx 0) (p 0) (s 0) :: tE t1 .null .null (D 1) (nx 1) (p 1) (s 1) :: tE t2 .null .null (D 2) (nx 2) (p 2) (s 2) :: wE w rA sh dm bt sA fA cA tk rc :: aS sA vs :: aF fA fs :: aI cA cs :: aT rA rv :: LS) (fun r M' => r = none ∧ ∃ p' nx' vs' fs' cs' LS' B', M' = WM t0 t1 t2 w sA fA cA rA sh dm bt rc tk rv (own_upd D 0 (own_mx e (tk + (1 : Int64)))) s p' nx' vs' fs' cs' LS' ∧ InvK (own_t3 t0 t1 t2) sh dm tk n zs (own_upd D 0 (own_mx e (tk + (1 : Int64)))) p' nx' vs' fs' cs' LS' B' (R.erase 0) (own_ins ks lN) ∧ (own_fl B').Perm (0 :: own_fl B) ∧ ∀ j ∈ R, j ≠ 0 → p' j = p j ∧ nx' j = nx j) := by
  refine Met.of_go pn_20 (Ls := #[.val (.ref w), .val (.ref t0), .val (.long e), .second]) (fun m => rfl) ?_
  intro E C
  refine Go.aloadN C d20_0 rfl rfl rfl ?_
  refine Go.lloadN C d20_1 rfl rfl ?_
  refine Go.aloadN C d20_2 rfl rfl rfl ?_
  refine Go.gf C (wd hw 76 rfl) 3 7 rfl rfl d20_3 rfl ?_
  refine Go.lconst C d20_6 rfl (v := (1 : Int64)) rfl ?_
  refine Go.ladd C d20_7 rfl ?_
  refine Go.callS C (y := yN1) (as := [(.long e), (.long (tk + (1 : Int64)))]) (rest := [(.ref t0)]) (wd hw 78 rfl) (wd hw 2 rfl) (wd hw 3 rfl) (wd hw 4 rfl) (m_maxJ l Z a0 hw _) rfl d20_8 (q := 11) rfl (by decide) rfl (na := 2) (by decide +kernel) rfl (by decide) (W := 1) rfl (by decide) (by decide) (by decide) (k' := 0) (n' := 0) rfl rfl ?_
  rintro _ _ ⟨rfl, rfl⟩
  show Go _ _ _ _ _ _ _ _ _ _ [(.long (own_mx e (tk + (1 : Int64)))), (.ref t0)]
  refine Go.pf C (wd hw 79 rfl) Via.refl 0 2 rfl rfl (wd hw 80 rfl) (wd hw 6 rfl) (ty := .long) (by decide) rfl rfl d20_11 rfl (M' := (tE t0 .null .null (own_mx e (tk + (1 : Int64))) (nx 0) (p 0) (s 0) :: tE t1 .null .null (D 1) (nx 1) (p 1) (s 1) :: tE t2 .null .null (D 2) (nx 2) (p 2) (s 2) :: wE w rA sh dm bt sA fA cA tk rc :: aS sA vs :: aF fA fs :: aI cA cs :: aT rA rv :: LS)) rfl ?_
  refine Go.aloadN C d20_14 rfl rfl rfl ?_
  refine Go.aloadN C d20_15 rfl rfl rfl ?_
  refine Go.callP C (y := yN11) (a := w) (as := [(.ref t0)]) (rest := []) (wd hw 81 rfl) (wd hw 82 rfl) (sel_priv (y := yN11) (wd hw 19 rfl) (wd hw 82 rfl) (wd hw 83 rfl) (by first | decide | exact Nat.le_of_ble_eq_true rfl)) (wd hw 83 rfl) (wd hw 84 rfl) (wd hw 20 rfl) (fun _ r => r.exa 3 rfl) (own_fileK l Z a0 hw hZ (InvK.updD (v := (own_mx e (tk + (1 : Int64)))) hI hiR) hiR hl hd (by rw [own_upd_s]; exact hP) (i := 0) rfl) rfl d20_16 (q := 19) rfl (by first | decide | exact Nat.le_of_ble_eq_true rfl) rfl (na := 1) (by decide +kernel) rfl (by first | decide | exact Nat.le_of_ble_eq_true rfl) (W := 0) rfl (by first | decide | exact Nat.le_of_ble_eq_true rfl) (own_fc0 ks lN) (own_fz0 ks (hZ.2.2 lN hl).2) (k' := (0 + own_fc ks lN)) (n' := (0 + own_fz zs ks lN)) rfl rfl ?_
  rintro _ _ ⟨rfl, p1, nx1, vs1, fs1, cs1, LS1, B1, rfl, hI1, hY1, hF1⟩
  show Go _ _ _ _ _ _ _ _ _ _ []
  refine Go.ret0 C rfl d20_19 (own_fc0 ks lN) (own_fz0 ks (hZ.2.2 lN hl).2) ?_
  exact ⟨rfl, _, _, _, _, _, _, _, rfl, hI1, hY1, hF1⟩
theorem m_add1 (l : Launch) (Z : State) (a0 : Array Value) (hw : HW Z a0) {t0 t1 t2 : Addr} {w sA fA cA rA : Addr} {sh : Int32} {dm : Int64} {bt rc : Int32} {tk : Int64} {rv : List Value} {D : Nat → Int64} {s : Nat → Int32} {p nx : Nat → Value} {vs fs cs : List Value} {LS : List Ent} {n : Nat} {zs : Nat → Nat} {B : List Bk} {R ks : List Nat} {e : Int64} {lN d : Nat} (hZ : Zs sh bt n zs) (hI : InvK (own_t3 t0 t1 t2) sh dm tk n zs D p nx vs fs cs LS B R ks) (hiR : 1 ∈ R) (hl : lN < n) (hd : d < zs lN) (hP : Pc sh dm tk (own_mx e (tk + (1 : Int64))) lN d) :
    Met l Z yN10 prog_12_method_2_code 4 none { frames := 7, cells := 2, slots := 260, locals := 150 } #[(.ref w), (.ref t1), (.long e)] (tE t0 .null .null (D 0) (nx 0) (p 0) (s 0) :: tE t1 .null .null (D 1) (nx 1) (p 1) (s 1) :: tE t2 .null .null (D 2) (nx 2) (p 2) (s 2) :: wE w rA sh dm bt sA fA cA tk rc :: aS sA vs :: aF fA fs :: aI cA cs :: aT rA rv :: LS) (fun r M' => r = none ∧ ∃ p' nx' vs' fs' cs' LS' B', M' = WM t0 t1 t2 w sA fA cA rA sh dm bt rc tk rv (own_upd D 1 (own_mx e (tk + (1 : Int64)))) s p' nx' vs' fs' cs' LS' ∧ InvK (own_t3 t0 t1 t2) sh dm tk n zs (own_upd D 1 (own_mx e (tk + (1 : Int64)))) p' nx' vs' fs' cs' LS' B' (R.erase 1) (own_ins ks lN) ∧ (own_fl B').Perm (1 :: own_fl B) ∧ ∀ j ∈ R, j ≠ 1 → p' j = p j ∧ nx' j = nx j) := by
  refine Met.of_go pn_20 (Ls := #[.val (.ref w), .val (.ref t1), .val (.long e), .second]) (fun m => rfl) ?_
  intro E C
  refine Go.aloadN C d20_0 rfl rfl rfl ?_
  refine Go.lloadN C d20_1 rfl rfl ?_
  refine Go.aloadN C d20_2 rfl rfl rfl ?_
  refine Go.gf C (wd hw 76 rfl) 3 7 rfl rfl d20_3 rfl ?_
  refine Go.lconst C d20_6 rfl (v := (1 : Int64)) rfl ?_
  refine Go.ladd C d20_7 rfl ?_
  refine Go.callS C (y := yN1) (as := [(.long e), (.long (tk + (1 : Int64)))]) (rest := [(.ref t1)]) (wd hw 78 rfl) (wd hw 2 rfl) (wd hw 3 rfl) (wd hw 4 rfl) (m_maxJ l Z a0 hw _) rfl d20_8 (q := 11) rfl (by decide) rfl (na := 2) (by decide +kernel) rfl (by decide) (W := 1) rfl (by decide) (by decide) (by decide) (k' := 0) (n' := 0) rfl rfl ?_
  rintro _ _ ⟨rfl, rfl⟩
  show Go _ _ _ _ _ _ _ _ _ _ [(.long (own_mx e (tk + (1 : Int64)))), (.ref t1)]
  refine Go.pf C (wd hw 79 rfl) Via.refl 1 2 rfl rfl (wd hw 80 rfl) (wd hw 6 rfl) (ty := .long) (by decide) rfl rfl d20_11 rfl (M' := (tE t0 .null .null (D 0) (nx 0) (p 0) (s 0) :: tE t1 .null .null (own_mx e (tk + (1 : Int64))) (nx 1) (p 1) (s 1) :: tE t2 .null .null (D 2) (nx 2) (p 2) (s 2) :: wE w rA sh dm bt sA fA cA tk rc :: aS sA vs :: aF fA fs :: aI cA cs :: aT rA rv :: LS)) rfl ?_
  refine Go.aloadN C d20_14 rfl rfl rfl ?_
  refine Go.aloadN C d20_15 rfl rfl rfl ?_
  refine Go.callP C (y := yN11) (a := w) (as := [(.ref t1)]) (rest := []) (wd hw 81 rfl) (wd hw 82 rfl) (sel_priv (y := yN11) (wd hw 19 rfl) (wd hw 82 rfl) (wd hw 83 rfl) (by first | decide | exact Nat.le_of_ble_eq_true rfl)) (wd hw 83 rfl) (wd hw 84 rfl) (wd hw 20 rfl) (fun _ r => r.exa 3 rfl) (own_fileK l Z a0 hw hZ (InvK.updD (v := (own_mx e (tk + (1 : Int64)))) hI hiR) hiR hl hd (by rw [own_upd_s]; exact hP) (i := 1) rfl) rfl d20_16 (q := 19) rfl (by first | decide | exact Nat.le_of_ble_eq_true rfl) rfl (na := 1) (by decide +kernel) rfl (by first | decide | exact Nat.le_of_ble_eq_true rfl) (W := 0) rfl (by first | decide | exact Nat.le_of_ble_eq_true rfl) (own_fc0 ks lN) (own_fz0 ks (hZ.2.2 lN hl).2) (k' := (0 + own_fc ks lN)) (n' := (0 + own_fz zs ks lN)) rfl rfl ?_
  rintro _ _ ⟨rfl, p1, nx1, vs1, fs1, cs1, LS1, B1, rfl, hI1, hY1, hF1⟩
  show Go _ _ _ _ _ _ _ _ _ _ []
  refine Go.ret0 C rfl d20_19 (own_fc0 ks lN) (own_fz0 ks (hZ.2.2 lN hl).2) ?_
  exact ⟨rfl, _, _, _, _, _, _, _, rfl, hI1, hY1, hF1⟩
theorem m_add2 (l : Launch) (Z : State) (a0 : Array Value) (hw : HW Z a0) {t0 t1 t2 : Addr} {w sA fA cA rA : Addr} {sh : Int32} {dm : Int64} {bt rc : Int32} {tk : Int64} {rv : List Value} {D : Nat → Int64} {s : Nat → Int32} {p nx : Nat → Value} {vs fs cs : List Value} {LS : List Ent} {n : Nat} {zs : Nat → Nat} {B : List Bk} {R ks : List Nat} {e : Int64} {lN d : Nat} (hZ : Zs sh bt n zs) (hI : InvK (own_t3 t0 t1 t2) sh dm tk n zs D p nx vs fs cs LS B R ks) (hiR : 2 ∈ R) (hl : lN < n) (hd : d < zs lN) (hP : Pc sh dm tk (own_mx e (tk + (1 : Int64))) lN d) :
    Met l Z yN10 prog_12_method_2_code 4 none { frames := 7, cells := 2, slots := 260, locals := 150 } #[(.ref w), (.ref t2), (.long e)] (tE t0 .null .null (D 0) (nx 0) (p 0) (s 0) :: tE t1 .null .null (D 1) (nx 1) (p 1) (s 1) :: tE t2 .null .null (D 2) (nx 2) (p 2) (s 2) :: wE w rA sh dm bt sA fA cA tk rc :: aS sA vs :: aF fA fs :: aI cA cs :: aT rA rv :: LS) (fun r M' => r = none ∧ ∃ p' nx' vs' fs' cs' LS' B', M' = WM t0 t1 t2 w sA fA cA rA sh dm bt rc tk rv (own_upd D 2 (own_mx e (tk + (1 : Int64)))) s p' nx' vs' fs' cs' LS' ∧ InvK (own_t3 t0 t1 t2) sh dm tk n zs (own_upd D 2 (own_mx e (tk + (1 : Int64)))) p' nx' vs' fs' cs' LS' B' (R.erase 2) (own_ins ks lN) ∧ (own_fl B').Perm (2 :: own_fl B) ∧ ∀ j ∈ R, j ≠ 2 → p' j = p j ∧ nx' j = nx j) := by
  refine Met.of_go pn_20 (Ls := #[.val (.ref w), .val (.ref t2), .val (.long e), .second]) (fun m => rfl) ?_
  intro E C
  refine Go.aloadN C d20_0 rfl rfl rfl ?_
  refine Go.lloadN C d20_1 rfl rfl ?_
  refine Go.aloadN C d20_2 rfl rfl rfl ?_
  refine Go.gf C (wd hw 76 rfl) 3 7 rfl rfl d20_3 rfl ?_
  refine Go.lconst C d20_6 rfl (v := (1 : Int64)) rfl ?_
  refine Go.ladd C d20_7 rfl ?_
  refine Go.callS C (y := yN1) (as := [(.long e), (.long (tk + (1 : Int64)))]) (rest := [(.ref t2)]) (wd hw 78 rfl) (wd hw 2 rfl) (wd hw 3 rfl) (wd hw 4 rfl) (m_maxJ l Z a0 hw _) rfl d20_8 (q := 11) rfl (by decide) rfl (na := 2) (by decide +kernel) rfl (by decide) (W := 1) rfl (by decide) (by decide) (by decide) (k' := 0) (n' := 0) rfl rfl ?_
  rintro _ _ ⟨rfl, rfl⟩
  show Go _ _ _ _ _ _ _ _ _ _ [(.long (own_mx e (tk + (1 : Int64)))), (.ref t2)]
  refine Go.pf C (wd hw 79 rfl) Via.refl 2 2 rfl rfl (wd hw 80 rfl) (wd hw 6 rfl) (ty := .long) (by decide) rfl rfl d20_11 rfl (M' := (tE t0 .null .null (D 0) (nx 0) (p 0) (s 0) :: tE t1 .null .null (D 1) (nx 1) (p 1) (s 1) :: tE t2 .null .null (own_mx e (tk + (1 : Int64))) (nx 2) (p 2) (s 2) :: wE w rA sh dm bt sA fA cA tk rc :: aS sA vs :: aF fA fs :: aI cA cs :: aT rA rv :: LS)) rfl ?_
  refine Go.aloadN C d20_14 rfl rfl rfl ?_
  refine Go.aloadN C d20_15 rfl rfl rfl ?_
  refine Go.callP C (y := yN11) (a := w) (as := [(.ref t2)]) (rest := []) (wd hw 81 rfl) (wd hw 82 rfl) (sel_priv (y := yN11) (wd hw 19 rfl) (wd hw 82 rfl) (wd hw 83 rfl) (by first | decide | exact Nat.le_of_ble_eq_true rfl)) (wd hw 83 rfl) (wd hw 84 rfl) (wd hw 20 rfl) (fun _ r => r.exa 3 rfl) (own_fileK l Z a0 hw hZ (InvK.updD (v := (own_mx e (tk + (1 : Int64)))) hI hiR) hiR hl hd (by rw [own_upd_s]; exact hP) (i := 2) rfl) rfl d20_16 (q := 19) rfl (by first | decide | exact Nat.le_of_ble_eq_true rfl) rfl (na := 1) (by decide +kernel) rfl (by first | decide | exact Nat.le_of_ble_eq_true rfl) (W := 0) rfl (by first | decide | exact Nat.le_of_ble_eq_true rfl) (own_fc0 ks lN) (own_fz0 ks (hZ.2.2 lN hl).2) (k' := (0 + own_fc ks lN)) (n' := (0 + own_fz zs ks lN)) rfl rfl ?_
  rintro _ _ ⟨rfl, p1, nx1, vs1, fs1, cs1, LS1, B1, rfl, hI1, hY1, hF1⟩
  show Go _ _ _ _ _ _ _ _ _ _ []
  refine Go.ret0 C rfl d20_19 (own_fc0 ks lN) (own_fz0 ks (hZ.2.2 lN hl).2) ?_
  exact ⟨rfl, _, _, _, _, _, _, _, rfl, hI1, hY1, hF1⟩
theorem d21_0 : decode prog_12_method_8_code 0 = .ok (.iconst 0, 1) := by decide +kernel
theorem d21_1 : decode prog_12_method_8_code 1 = .ok (.istore_n 1, 1) := by decide +kernel
theorem d21_2 : decode prog_12_method_8_code 2 = .ok (.iload_n 1, 1) := by decide +kernel
theorem d21_3 : decode prog_12_method_8_code 3 = .ok (.aload_n 0, 1) := by decide +kernel
theorem d21_4 : decode prog_12_method_8_code 4 = .ok (.getfield 63, 3) := by decide +kernel
theorem d21_7 : decode prog_12_method_8_code 7 = .ok (.if_icmp .ge 35, 3) := by decide +kernel
theorem d21_42 : decode prog_12_method_8_code 42 = .ok (.aload_n 0, 1) := by decide +kernel
theorem d21_43 : decode prog_12_method_8_code 43 = .ok (.iconst 0, 1) := by decide +kernel
theorem d21_44 : decode prog_12_method_8_code 44 = .ok (.putfield 63, 3) := by decide +kernel
theorem d21_47 : decode prog_12_method_8_code 47 = .ok (.return_, 1) := by decide +kernel
theorem pn_21 : plainFor yN8 = true := by first | (apply plainFor_of_name; simp [plainName, overriddenIn]; done) | decide +kernel
theorem m_urN (l : Launch) (Z : State) (a0 : Array Value) (hw : HW Z a0) {t0 t1 t2 : Addr} {w sA fA cA rA : Addr} {sh : Int32} {dm : Int64} {bt : Int32} {tk : Int64} {rv : List Value} {D : Nat → Int64} {s : Nat → Int32} {p nx : Nat → Value} {vs fs cs : List Value} {LS : List Ent}  :
    Met l Z yN8 prog_12_method_8_code 3 none { frames := 7, cells := 0, slots := 0, locals := 150 } #[(.ref w)] (tE t0 .null .null (D 0) (nx 0) (p 0) (s 0) :: tE t1 .null .null (D 1) (nx 1) (p 1) (s 1) :: tE t2 .null .null (D 2) (nx 2) (p 2) (s 2) :: wE w rA sh dm bt sA fA cA tk 0 :: aS sA vs :: aF fA fs :: aI cA cs :: aT rA rv :: LS) (fun r M' => r = none ∧ M' = (tE t0 .null .null (D 0) (nx 0) (p 0) (s 0) :: tE t1 .null .null (D 1) (nx 1) (p 1) (s 1) :: tE t2 .null .null (D 2) (nx 2) (p 2) (s 2) :: wE w rA sh dm bt sA fA cA tk 0 :: aS sA vs :: aF fA fs :: aI cA cs :: aT rA rv :: LS)) := by
  refine Met.of_go pn_21 (Ls := #[.val (.ref w), .unset, .unset]) (fun m => rfl) ?_
  intro E C
  refine Go.iconst C d21_0 rfl (v := (0 : Int32)) rfl ?_
  refine Go.istoreN C d21_1 rfl (Ls' := #[.val (.ref w), .val (.int (0 : Int32)), .unset]) rfl ?_
  refine Go.iloadN C d21_2 rfl rfl ?_
  refine Go.aloadN C d21_3 rfl rfl rfl ?_
  refine Go.gf C (wd hw 64 rfl) 3 8 rfl rfl d21_4 rfl ?_
  refine Go.icmpYes C d21_7 (by decide) (q := 42) rfl (XT.ii_ge_t (by decide)) ?_
  refine Go.aloadN C d21_42 rfl rfl rfl ?_
  refine Go.iconst C d21_43 rfl (v := (0 : Int32)) rfl ?_
  refine Go.pf C (wd hw 64 rfl) Via.refl 3 8 rfl rfl (wd hw 65 rfl) (wd hw 19 rfl) (ty := .int) (by decide) rfl rfl d21_44 rfl (M' := (tE t0 .null .null (D 0) (nx 0) (p 0) (s 0) :: tE t1 .null .null (D 1) (nx 1) (p 1) (s 1) :: tE t2 .null .null (D 2) (nx 2) (p 2) (s 2) :: wE w rA sh dm bt sA fA cA tk 0 :: aS sA vs :: aF fA fs :: aI cA cs :: aT rA rv :: LS)) rfl ?_
  refine Go.ret0 C rfl d21_47 (by decide) (by decide) ?_
  exact ⟨rfl, rfl⟩
theorem d21_10 : decode prog_12_method_8_code 10 = .ok (.aload_n 0, 1) := by decide +kernel
theorem d21_11 : decode prog_12_method_8_code 11 = .ok (.getfield 13, 3) := by decide +kernel
theorem d21_14 : decode prog_12_method_8_code 14 = .ok (.iload_n 1, 1) := by decide +kernel
theorem d21_15 : decode prog_12_method_8_code 15 = .ok (.aaload, 1) := by decide +kernel
theorem d21_16 : decode prog_12_method_8_code 16 = .ok (.astore_n 2, 1) := by decide +kernel
theorem d21_17 : decode prog_12_method_8_code 17 = .ok (.aload_n 0, 1) := by decide +kernel
theorem d21_18 : decode prog_12_method_8_code 18 = .ok (.getfield 13, 3) := by decide +kernel
theorem d21_21 : decode prog_12_method_8_code 21 = .ok (.iload_n 1, 1) := by decide +kernel
theorem d21_22 : decode prog_12_method_8_code 22 = .ok (.aconst_null, 1) := by decide +kernel
theorem d21_23 : decode prog_12_method_8_code 23 = .ok (.aastore, 1) := by decide +kernel
theorem d21_24 : decode prog_12_method_8_code 24 = .ok (.aload_n 2, 1) := by decide +kernel
theorem d21_25 : decode prog_12_method_8_code 25 = .ok (.getfield 97, 3) := by decide +kernel
theorem d21_28 : decode prog_12_method_8_code 28 = .ok (.ifnull 8, 3) := by decide +kernel
theorem d21_31 : decode prog_12_method_8_code 31 = .ok (.aload_n 0, 1) := by decide +kernel
theorem d21_32 : decode prog_12_method_8_code 32 = .ok (.aload_n 2, 1) := by decide +kernel
theorem d21_33 : decode prog_12_method_8_code 33 = .ok (.invokevirtual 87, 3) := by decide +kernel
theorem d21_36 : decode prog_12_method_8_code 36 = .ok (.iinc 1 1, 3) := by decide +kernel
theorem d21_39 : decode prog_12_method_8_code 39 = .ok (.goto (-37), 3) := by decide +kernel
theorem m_urF (l : Launch) (Z : State) (a0 : Array Value) (hw : HW Z a0) {t0 t1 t2 : Addr} {w sA fA cA rA : Addr} {sh : Int32} {dm : Int64} {bt : Int32} {tk : Int64} {rv : List Value} {D : Nat → Int64} {s : Nat → Int32} {p nx : Nat → Value} {vs fs cs : List Value} {LS : List Ent} {n : Nat} {zs : Nat → Nat} {B : List Bk} {R ks : List Nat} {Y : List Nat} (hZ : Zs sh bt n zs) (hI : InvK (own_t3 t0 t1 t2) sh dm tk n zs D p nx vs fs cs LS B R ks) (hY : (own_fl B).Perm (1 :: Y)) (hT : ∀ a b, a < 3 → b < 3 → a ≠ b → own_t3 t0 t1 t2 a ≠ own_t3 t0 t1 t2 b) (hx0 : rv[(0 : Int32).toNatClampNeg]? = some (.ref t1)) (hpn : ¬ (p 1) = .null) (hpr : (p 1).isRef = true) :
    Met l Z yN8 prog_12_method_8_code 3 none { frames := 7, cells := 0, slots := 0, locals := 150 } #[(.ref w)] (tE t0 .null .null (D 0) (nx 0) (p 0) (s 0) :: tE t1 .null .null (D 1) (nx 1) (p 1) (s 1) :: tE t2 .null .null (D 2) (nx 2) (p 2) (s 2) :: wE w rA sh dm bt sA fA cA tk 1 :: aS sA vs :: aF fA fs :: aI cA cs :: aT rA rv :: LS) (fun r M' => r = none ∧ ∃ p' nx' vs' fs' cs' LS' B' rv', M' = WM t0 t1 t2 w sA fA cA rA sh dm bt 0 tk rv' D s p' nx' vs' fs' cs' LS' ∧ InvK (own_t3 t0 t1 t2) sh dm tk n zs D p' nx' vs' fs' cs' LS' B' (1 :: R) ks ∧ (own_fl B').Perm Y) := by
  refine Met.of_go pn_21 (Ls := #[.val (.ref w), .unset, .unset]) (fun m => rfl) ?_
  intro E C
  refine Go.iconst C d21_0 rfl (v := (0 : Int32)) rfl ?_
  refine Go.istoreN C d21_1 rfl (Ls' := #[.val (.ref w), .val (.int (0 : Int32)), .unset]) rfl ?_
  refine Go.iloadN C d21_2 rfl rfl ?_
  refine Go.aloadN C d21_3 rfl rfl rfl ?_
  refine Go.gf C (wd hw 64 rfl) 3 8 rfl rfl d21_4 rfl ?_
  refine Go.icmpNo C d21_7 (q := 10) rfl (XT.ii_ge_f (by decide)) ?_
  refine Go.aloadN C d21_10 rfl rfl rfl ?_
  refine Go.gf C (wd hw 27 rfl) 3 0 rfl rfl d21_11 rfl ?_
  refine Go.iloadN C d21_14 rfl rfl ?_
  refine Go.aaload C (fun _ r => r.arr 7 rfl) rfl (by decide) (v := (.ref t1)) hx0 d21_15 (q := 16) rfl ?_
  refine Go.astoreN C d21_16 rfl rfl (Ls' := #[.val (.ref w), .val (.int (0 : Int32)), .val (.ref t1)]) rfl ?_
  refine Go.aloadN C d21_17 rfl rfl rfl ?_
  refine Go.gf C (wd hw 27 rfl) 3 0 rfl rfl d21_18 rfl ?_
  refine Go.iloadN C d21_21 rfl rfl ?_
  refine Go.aconstNull C d21_22 rfl ?_
  refine Go.aastore C (i := 7) rfl (by decide) (own_lt hx0) (fun _ _ => Or.inl rfl) d21_23 (q := 24) rfl (M' := (tE t0 .null .null (D 0) (nx 0) (p 0) (s 0) :: tE t1 .null .null (D 1) (nx 1) (p 1) (s 1) :: tE t2 .null .null (D 2) (nx 2) (p 2) (s 2) :: wE w rA sh dm bt sA fA cA tk 1 :: aS sA vs :: aF fA fs :: aI cA cs :: aT rA (rv.set (0 : Int32).toNatClampNeg .null) :: LS)) rfl ?_
  refine Go.aloadN C d21_24 rfl rfl rfl ?_
  refine Go.gf C (wd hw 101 rfl) 1 4 rfl rfl d21_25 rfl ?_
  refine Go.nullNo C d21_28 (q := 31) rfl hpr hpn ?_
  refine Go.aloadN C d21_31 rfl rfl rfl ?_
  refine Go.aloadN C d21_32 rfl rfl rfl ?_
  refine Go.callP C (y := yN23) (a := w) (as := [(.ref t1)]) (rest := []) (wd hw 135 rfl) (wd hw 136 rfl) (sel_priv (y := yN23) (wd hw 19 rfl) (wd hw 136 rfl) (wd hw 137 rfl) (by decide)) (wd hw 137 rfl) (wd hw 138 rfl) (wd hw 20 rfl) (fun _ r => r.exa 3 rfl) (own_unlK l Z a0 hw hZ hI (i := 1) hY hT rfl) rfl d21_33 (q := 36) rfl (by decide) rfl (na := 1) (by decide +kernel) rfl (by decide) (W := 0) rfl (by decide) (by decide) (by decide) (k' := 0) (n' := 0) rfl rfl ?_
  rintro _ _ ⟨rfl, p1, nx1, vs1, fs1, cs1, LS1, B1, rfl, hI1, hY1, hF1, hp1, hn1⟩
  show Go _ _ _ _ _ _ _ _ _ _ []
  refine Go.iinc C d21_36 rfl rfl (v := (1 : Int32)) (by first | rfl | decide) (Ls' := #[.val (.ref w), .val (.int (1 : Int32)), .val (.ref t1)]) rfl ?_
  refine Go.goto C d21_39 (by decide) (q := 2) rfl ?_
  refine Go.iloadN C d21_2 rfl rfl ?_
  refine Go.aloadN C d21_3 rfl rfl rfl ?_
  refine Go.gf C (wd hw 64 rfl) 3 8 rfl rfl d21_4 rfl ?_
  refine Go.icmpYes C d21_7 (by decide) (q := 42) rfl (XT.ii_ge_t (by decide)) ?_
  refine Go.aloadN C d21_42 rfl rfl rfl ?_
  refine Go.iconst C d21_43 rfl (v := (0 : Int32)) rfl ?_
  refine Go.pf C (wd hw 64 rfl) Via.refl 3 8 rfl rfl (wd hw 65 rfl) (wd hw 19 rfl) (ty := .int) (by decide) rfl rfl d21_44 rfl (M' := (tE t0 .null .null (D 0) (nx1 0) (p1 0) (s 0) :: tE t1 .null .null (D 1) (nx1 1) (p1 1) (s 1) :: tE t2 .null .null (D 2) (nx1 2) (p1 2) (s 2) :: wE w rA sh dm bt sA fA cA tk 0 :: aS sA vs1 :: aF fA fs1 :: aI cA cs1 :: aT rA (rv.set (0 : Int32).toNatClampNeg .null) :: LS1)) rfl ?_
  refine Go.ret0 C rfl d21_47 (by decide) (by decide) ?_
  exact ⟨rfl, _, _, _, _, _, _, _, _, rfl, hI1, hY1⟩
theorem m_urZ (l : Launch) (Z : State) (a0 : Array Value) (hw : HW Z a0) {t0 t1 t2 : Addr} {w sA fA cA rA : Addr} {sh : Int32} {dm : Int64} {bt : Int32} {tk : Int64} {rv : List Value} {D : Nat → Int64} {s : Nat → Int32} {p nx : Nat → Value} {vs fs cs : List Value} {LS : List Ent} (hx0 : rv[(0 : Int32).toNatClampNeg]? = some (.ref t1)) (hpn : (p 1) = .null) :
    Met l Z yN8 prog_12_method_8_code 3 none { frames := 7, cells := 0, slots := 0, locals := 150 } #[(.ref w)] (tE t0 .null .null (D 0) (nx 0) (p 0) (s 0) :: tE t1 .null .null (D 1) (nx 1) (p 1) (s 1) :: tE t2 .null .null (D 2) (nx 2) (p 2) (s 2) :: wE w rA sh dm bt sA fA cA tk 1 :: aS sA vs :: aF fA fs :: aI cA cs :: aT rA rv :: LS) (fun r M' => r = none ∧ ∃ rv', M' = (tE t0 .null .null (D 0) (nx 0) (p 0) (s 0) :: tE t1 .null .null (D 1) (nx 1) (p 1) (s 1) :: tE t2 .null .null (D 2) (nx 2) (p 2) (s 2) :: wE w rA sh dm bt sA fA cA tk 0 :: aS sA vs :: aF fA fs :: aI cA cs :: aT rA rv' :: LS)) := by
  refine Met.of_go pn_21 (Ls := #[.val (.ref w), .unset, .unset]) (fun m => rfl) ?_
  intro E C
  refine Go.iconst C d21_0 rfl (v := (0 : Int32)) rfl ?_
  refine Go.istoreN C d21_1 rfl (Ls' := #[.val (.ref w), .val (.int (0 : Int32)), .unset]) rfl ?_
  refine Go.iloadN C d21_2 rfl rfl ?_
  refine Go.aloadN C d21_3 rfl rfl rfl ?_
  refine Go.gf C (wd hw 64 rfl) 3 8 rfl rfl d21_4 rfl ?_
  refine Go.icmpNo C d21_7 (q := 10) rfl (XT.ii_ge_f (by decide)) ?_
  refine Go.aloadN C d21_10 rfl rfl rfl ?_
  refine Go.gf C (wd hw 27 rfl) 3 0 rfl rfl d21_11 rfl ?_
  refine Go.iloadN C d21_14 rfl rfl ?_
  refine Go.aaload C (fun _ r => r.arr 7 rfl) rfl (by decide) (v := (.ref t1)) hx0 d21_15 (q := 16) rfl ?_
  refine Go.astoreN C d21_16 rfl rfl (Ls' := #[.val (.ref w), .val (.int (0 : Int32)), .val (.ref t1)]) rfl ?_
  refine Go.aloadN C d21_17 rfl rfl rfl ?_
  refine Go.gf C (wd hw 27 rfl) 3 0 rfl rfl d21_18 rfl ?_
  refine Go.iloadN C d21_21 rfl rfl ?_
  refine Go.aconstNull C d21_22 rfl ?_
  refine Go.aastore C (i := 7) rfl (by decide) (own_lt hx0) (fun _ _ => Or.inl rfl) d21_23 (q := 24) rfl (M' := (tE t0 .null .null (D 0) (nx 0) (p 0) (s 0) :: tE t1 .null .null (D 1) (nx 1) (p 1) (s 1) :: tE t2 .null .null (D 2) (nx 2) (p 2) (s 2) :: wE w rA sh dm bt sA fA cA tk 1 :: aS sA vs :: aF fA fs :: aI cA cs :: aT rA (rv.set (0 : Int32).toNatClampNeg .null) :: LS)) rfl ?_
  refine Go.aloadN C d21_24 rfl rfl rfl ?_
  refine Go.gf C (wd hw 101 rfl) 1 4 rfl rfl d21_25 rfl ?_
  refine Go.nullYes C d21_28 (by decide) (q := 36) rfl hpn ?_
  refine Go.iinc C d21_36 rfl rfl (v := (1 : Int32)) (by first | rfl | decide) (Ls' := #[.val (.ref w), .val (.int (1 : Int32)), .val (.ref t1)]) rfl ?_
  refine Go.goto C d21_39 (by decide) (q := 2) rfl ?_
  refine Go.iloadN C d21_2 rfl rfl ?_
  refine Go.aloadN C d21_3 rfl rfl rfl ?_
  refine Go.gf C (wd hw 64 rfl) 3 8 rfl rfl d21_4 rfl ?_
  refine Go.icmpYes C d21_7 (by decide) (q := 42) rfl (XT.ii_ge_t (by decide)) ?_
  refine Go.aloadN C d21_42 rfl rfl rfl ?_
  refine Go.iconst C d21_43 rfl (v := (0 : Int32)) rfl ?_
  refine Go.pf C (wd hw 64 rfl) Via.refl 3 8 rfl rfl (wd hw 65 rfl) (wd hw 19 rfl) (ty := .int) (by decide) rfl rfl d21_44 rfl (M' := (tE t0 .null .null (D 0) (nx 0) (p 0) (s 0) :: tE t1 .null .null (D 1) (nx 1) (p 1) (s 1) :: tE t2 .null .null (D 2) (nx 2) (p 2) (s 2) :: wE w rA sh dm bt sA fA cA tk 0 :: aS sA vs :: aF fA fs :: aI cA cs :: aT rA (rv.set (0 : Int32).toNatClampNeg .null) :: LS)) rfl ?_
  refine Go.ret0 C rfl d21_47 (by decide) (by decide) ?_
  exact ⟨rfl, _, rfl⟩
theorem own_shift (x : Int32) : ∃ s : Nat, 1 ≤ s ∧ s ≤ 8 ∧ (1 : Int32) + (x &&& (7 : Int32)) = Int32.ofNat s := by
  have h := Jvm.Kit.i32_mask x 7 (k := 3) (by decide) (by decide)
  have h0 : 0 ≤ x.toInt % 2 ^ 3 := Int.emod_nonneg _ (by decide)
  have h8 : x.toInt % 2 ^ 3 < 8 := Int.emod_lt_of_pos _ (by decide)
  obtain ⟨k, hk⟩ := Int.eq_ofNat_of_zero_le h0
  rw [hk] at h h8
  have e1 : (1 : Int32).toInt = 1 := rfl
  refine ⟨1 + k, by omega, by omega, ?_⟩
  apply Int32.toInt_inj.mp
  rw [Jvm.Kit.i32_add (by rw [h, e1]; omega) (by rw [h, e1]; omega), h, e1, own_toN (by omega)]
  omega
theorem own_last (x : Int64) : 0 < own_mx (1 : Int64) x := by
  unfold own_mx
  split
  · rename_i h
    rw [Int64.lt_iff_toInt_lt] at h ⊢
    rw [show (1 : Int64).toInt = 1 from rfl] at h
    rw [Int64.toInt_zero]
    omega
  · decide
theorem own_dm : ∀ m : Fin 9, (((1 : Int64) <<< ((Int32.ofNat m.1).toInt64 &&& 63)) - (1 : Int64)).toBitVec.toNat = 2 ^ m.1 - 1 := by decide +kernel
theorem own_T3 {t0 t1 t2 : Addr} (h1 : t0 ≠ t1) (h2 : t0 ≠ t2) (h3 : t1 ≠ t2) : ∀ a b, a < 3 → b < 3 → a ≠ b → own_t3 t0 t1 t2 a ≠ own_t3 t0 t1 t2 b := by
  intro a b ha hb hab
  have ha' : a = 0 ∨ a = 1 ∨ a = 2 := by omega
  have hb' : b = 0 ∨ b = 1 ∨ b = 2 := by omega
  rcases ha' with rfl | rfl | rfl <;> rcases hb' with rfl | rfl | rfl <;> first | exact absurd rfl hab | exact h1 | exact h2 | exact h3 | exact h1.symm | exact h2.symm | exact h3.symm
theorem own_vne {a b : Addr} (h : a ≠ b) : ¬ Value.ref a = Value.ref b := fun e => by injection e; contradiction
theorem own_bit (c : Prop) [Decidable c] : ∃ g : Int32, (if c then (0 : Int32) else 1) = g ∧ (g = 0 ∨ g = 1) := by
  by_cases h : c
  · exact ⟨0, if_pos h, Or.inl rfl⟩
  · exact ⟨1, if_neg h, Or.inr rfl⟩
theorem own_y3 {f0 f1 f2 f3 : List Nat} (h0 : f0 = []) (h1 : f1.Perm (0 :: f0)) (h2 : f2.Perm (1 :: f1)) (h3 : f3.Perm (2 :: f2)) : f3.Perm [2, 1, 0] := by
  subst h0
  exact h3.trans ((h2.trans (h1.cons 1)).cons 2)
theorem own_cs0 {T : Nat → Addr} {sh : Int32} {dm tk : Int64} {n : Nat} {zs : Nat → Nat} {D : Nat → Int64} {p nx : Nat → Value} {vs fs cs : List Value} {LS : List Ent} {R : List Nat} {i : Nat} (hI : Inv T sh dm tk n zs D p nx vs fs cs LS [] R) (hi : i < n) (h31 : i < 2147483648) : cs[(Int32.ofNat i).toNatClampNeg]? = some (.int 0) := by
  obtain ⟨ks, sa, fa, H, W, -, -, rfl, -⟩ := hI
  rw [own_cl h31, own_rm_get hi]; rfl
theorem own_low (l : Launch) (Z : State) (a0 : Array Value) (hw : HW Z a0) {t0 t1 t2 w sA fA cA rA : Addr} {sh : Int32} {dm : Int64} {bt rc : Int32} {tk : Int64} {rv : List Value} {D : Nat → Int64} {s : Nat → Int32} {p nx : Nat → Value} {vs fs cs : List Value} {LS : List Ent} {n : Nat} {zs : Nat → Nat} {R : List Nat} {E : E0} {Q : PQ} (C : Cx Z yN9 prog_12_method_14_code 2 (some .int) E) (hn : n ≤ 63) (hI : Inv (own_t3 t0 t1 t2) sh dm tk n zs D p nx vs fs cs LS [] R) (hq : Q (some (.int (-1 : Int32))) (WM t0 t1 t2 w sA fA cA rA sh dm bt rc tk rv D s p nx vs fs cs LS)) :
    ∀ (k i : Nat), i + k = n → Go l Z { frames := 0, cells := 0, slots := 0, locals := 0 } E Q (WM t0 t1 t2 w sA fA cA rA sh dm bt rc tk rv D s p nx vs fs cs LS) 0 0 2 #[.val (.ref w), .val (.int (Int32.ofNat i))] [] := by
  intro k
  induction k with
  | zero =>
    intro i hi
    obtain rfl : i = n := by omega
    exact g_lob l Z a0 hw C (own_clen hI) (fun z => Int32.lt_irrefl z) hq
  | succ k ih =>
    intro i hi
    refine g_loa l Z a0 hw C (own_nn (by omega)) (own_clen hI) (by rw [Int32.lt_iff_toInt_lt, own_toN (by omega), own_toN (by omega)]; omega) (own_cs0 hI (by omega) (by omega)) (by decide) ?_
    rw [own_inc]
    exact ih (i + 1) (by omega)
theorem m_low0 (l : Launch) (Z : State) (a0 : Array Value) (hw : HW Z a0) {t0 t1 t2 : Addr} {w sA fA cA rA : Addr} {sh : Int32} {dm : Int64} {bt rc : Int32} {tk : Int64} {rv : List Value} {D : Nat → Int64} {s : Nat → Int32} {p nx : Nat → Value} {vs fs cs : List Value} {LS : List Ent} {n : Nat} {zs : Nat → Nat} {R : List Nat} (hn : n ≤ 63) (hI : Inv (own_t3 t0 t1 t2) sh dm tk n zs D p nx vs fs cs LS [] R) :
    Met l Z yN9 prog_12_method_14_code 2 (some .int) { frames := 0, cells := 0, slots := 0, locals := 0 } #[(.ref w)] (tE t0 .null .null (D 0) (nx 0) (p 0) (s 0) :: tE t1 .null .null (D 1) (nx 1) (p 1) (s 1) :: tE t2 .null .null (D 2) (nx 2) (p 2) (s 2) :: wE w rA sh dm bt sA fA cA tk rc :: aS sA vs :: aF fA fs :: aI cA cs :: aT rA rv :: LS) (fun r M' => r = some (.int (-1 : Int32)) ∧ M' = (tE t0 .null .null (D 0) (nx 0) (p 0) (s 0) :: tE t1 .null .null (D 1) (nx 1) (p 1) (s 1) :: tE t2 .null .null (D 2) (nx 2) (p 2) (s 2) :: wE w rA sh dm bt sA fA cA tk rc :: aS sA vs :: aF fA fs :: aI cA cs :: aT rA rv :: LS)) := by
  refine Met.of_go pn_14 (Ls := #[.val (.ref w), .unset]) (fun m => rfl) ?_
  intro E C
  refine Go.iconst C d14_0 rfl (v := (0 : Int32)) rfl ?_
  refine Go.istoreN C d14_1 rfl (Ls' := #[.val (.ref w), .val (.int (0 : Int32))]) rfl ?_
  exact own_low l Z a0 hw C hn hI ⟨rfl, rfl⟩ n 0 (by omega)
theorem d22_0 : decode prog_12_method_4_code 0 = .ok (.aload_n 0, 1) := by decide +kernel
theorem d22_1 : decode prog_12_method_4_code 1 = .ok (.invokevirtual 66, 3) := by decide +kernel
theorem d22_4 : decode prog_12_method_4_code 4 = .ok (.aload_n 0, 1) := by decide +kernel
theorem d22_5 : decode prog_12_method_4_code 5 = .ok (.invokevirtual 69, 3) := by decide +kernel
theorem d22_8 : decode prog_12_method_4_code 8 = .ok (.istore_n 1, 1) := by decide +kernel
theorem d22_9 : decode prog_12_method_4_code 9 = .ok (.iload_n 1, 1) := by decide +kernel
theorem d22_10 : decode prog_12_method_4_code 10 = .ok (.ifCond .ge 9, 3) := by decide +kernel
theorem d22_13 : decode prog_12_method_4_code 13 = .ok (.ldc2_w 73, 3) := by decide +kernel
theorem d22_16 : decode prog_12_method_4_code 16 = .ok (.goto 13, 3) := by decide +kernel
theorem d22_29 : decode prog_12_method_4_code 29 = .ok (.lreturn, 1) := by decide +kernel
theorem pn_22 : plainFor yN7 = true := by first | (apply plainFor_of_name; simp [plainName, overriddenIn]; done) | decide +kernel
theorem m_neE (l : Launch) (Z : State) (a0 : Array Value) (hw : HW Z a0) {t0 t1 t2 : Addr} {w sA fA cA rA : Addr} {sh : Int32} {dm : Int64} {bt : Int32} {tk : Int64} {rv : List Value} {D : Nat → Int64} {s : Nat → Int32} {p nx : Nat → Value} {vs fs cs : List Value} {LS : List Ent} {n : Nat} {zs : Nat → Nat} {R : List Nat} (hn : n ≤ 63) (hI : Inv (own_t3 t0 t1 t2) sh dm tk n zs D p nx vs fs cs LS [] R) :
    Met l Z yN7 prog_12_method_4_code 2 (some .long) { frames := 8, cells := 0, slots := 0, locals := 180 } #[(.ref w)] (tE t0 .null .null (D 0) (nx 0) (p 0) (s 0) :: tE t1 .null .null (D 1) (nx 1) (p 1) (s 1) :: tE t2 .null .null (D 2) (nx 2) (p 2) (s 2) :: wE w rA sh dm bt sA fA cA tk 0 :: aS sA vs :: aF fA fs :: aI cA cs :: aT rA rv :: LS) (fun r M' => r = some (.long (9223372036854775807 : Int64)) ∧ M' = (tE t0 .null .null (D 0) (nx 0) (p 0) (s 0) :: tE t1 .null .null (D 1) (nx 1) (p 1) (s 1) :: tE t2 .null .null (D 2) (nx 2) (p 2) (s 2) :: wE w rA sh dm bt sA fA cA tk 0 :: aS sA vs :: aF fA fs :: aI cA cs :: aT rA rv :: LS)) := by
  refine Met.of_go pn_22 (Ls := #[.val (.ref w), .unset]) (fun m => rfl) ?_
  intro E C
  refine Go.aloadN C d22_0 rfl rfl rfl ?_
  refine Go.callP C (y := yN8) (a := w) (as := []) (rest := []) (wd hw 60 rfl) (wd hw 61 rfl) (sel_priv (y := yN8) (wd hw 19 rfl) (wd hw 61 rfl) (wd hw 62 rfl) (by decide)) (wd hw 62 rfl) (wd hw 63 rfl) (wd hw 20 rfl) (fun _ r => r.exa 3 rfl) (m_urN l Z a0 hw) rfl d22_1 (q := 4) rfl (by decide) rfl (na := 0) (by decide +kernel) rfl (by decide) (W := 0) rfl (by decide) (by decide) (by decide) (k' := 0) (n' := 0) rfl rfl ?_
  rintro _ _ ⟨rfl, rfl⟩
  show Go _ _ _ _ _ _ _ _ _ _ []
  refine Go.aloadN C d22_4 rfl rfl rfl ?_
  refine Go.callP C (y := yN9) (a := w) (as := []) (rest := []) (wd hw 66 rfl) (wd hw 67 rfl) (sel_priv (y := yN9) (wd hw 19 rfl) (wd hw 67 rfl) (wd hw 68 rfl) (by decide)) (wd hw 68 rfl) (wd hw 69 rfl) (wd hw 20 rfl) (fun _ r => r.exa 3 rfl) (m_low0 l Z a0 hw hn hI) rfl d22_5 (q := 8) rfl (by decide) rfl (na := 0) (by decide +kernel) rfl (by decide) (W := 0) rfl (by decide) (by decide) (by decide) (k' := 0) (n' := 0) rfl rfl ?_
  rintro _ _ ⟨rfl, rfl⟩
  show Go _ _ _ _ _ _ _ _ _ _ [(.int (-1 : Int32))]
  refine Go.istoreN C d22_8 rfl (Ls' := #[.val (.ref w), .val (.int (-1 : Int32))]) rfl ?_
  refine Go.iloadN C d22_9 rfl rfl ?_
  refine Go.ifNo C d22_10 (q := 13) rfl (XT.i0_ge_f (by decide)) ?_
  refine Go.ldc2J C (v := (9223372036854775807 : Int64)) (wd hw 70 rfl) d22_13 rfl ?_
  refine Go.goto C d22_16 (by decide) (q := 29) rfl ?_
  refine Go.retL C rfl d22_29 (by decide) (by decide) ?_
  exact ⟨rfl, rfl⟩
theorem d22_19 : decode prog_12_method_4_code 19 = .ok (.aload_n 0, 1) := by decide +kernel
theorem d22_20 : decode prog_12_method_4_code 20 = .ok (.iload_n 1, 1) := by decide +kernel
theorem d22_21 : decode prog_12_method_4_code 21 = .ok (.aload_n 0, 1) := by decide +kernel
theorem d22_22 : decode prog_12_method_4_code 22 = .ok (.iload_n 1, 1) := by decide +kernel
theorem d22_23 : decode prog_12_method_4_code 23 = .ok (.invokevirtual 75, 3) := by decide +kernel
theorem d22_26 : decode prog_12_method_4_code 26 = .ok (.invokevirtual 79, 3) := by decide +kernel
theorem m_neN (l : Launch) (Z : State) (a0 : Array Value) (hw : HW Z a0) {t0 t1 t2 : Addr} {w sA fA cA rA : Addr} {dm : Int64} {bt : Int32} {tk : Int64} {rv : List Value} {D : Nat → Int64} {s : Nat → Int32} {p nx : Nat → Value} {vs fs cs : List Value} {LS : List Ent} {n b sn t m : Nat} {zs : Nat → Nat} {dN : Nat → Nat} {B : List Bk} {R ks : List Nat} (hZ : Zs (Int32.ofNat sn) bt n zs) (hG : Geo sn dm n b zs) (hD : ∀ i, i < 3 → (D i).toInt = dN i ∧ dN i < 2 ^ b) (hI : InvK (own_t3 t0 t1 t2) (Int32.ofNat sn) dm tk n zs D p nx vs fs cs LS B R ks) (ht : tk.toInt = t) (hfil : ∀ i ∈ own_fl B, t ≤ dN i) (hm : ∃ i ∈ own_fl B, dN i = m) (hmn : ∀ i ∈ own_fl B, m ≤ dN i) :
    Met l Z yN7 prog_12_method_4_code 2 (some .long) { frames := 8, cells := 0, slots := 0, locals := 180 } #[(.ref w)] (tE t0 .null .null (D 0) (nx 0) (p 0) (s 0) :: tE t1 .null .null (D 1) (nx 1) (p 1) (s 1) :: tE t2 .null .null (D 2) (nx 2) (p 2) (s 2) :: wE w rA (Int32.ofNat sn) dm bt sA fA cA tk 0 :: aS sA vs :: aF fA fs :: aI cA cs :: aT rA rv :: LS) (fun r M' => ∃ nt : Int64, r = some (.long nt) ∧ nt.toInt = ((own_ev sn (own_lvl sn t m) m : Nat) : Int)) := by
  refine Met.of_go pn_22 (Ls := #[.val (.ref w), .unset]) (fun m => rfl) ?_
  intro E C
  refine Go.aloadN C d22_0 rfl rfl rfl ?_
  refine Go.callP C (y := yN8) (a := w) (as := []) (rest := []) (wd hw 60 rfl) (wd hw 61 rfl) (sel_priv (y := yN8) (wd hw 19 rfl) (wd hw 61 rfl) (wd hw 62 rfl) (by decide)) (wd hw 62 rfl) (wd hw 63 rfl) (wd hw 20 rfl) (fun _ r => r.exa 3 rfl) (m_urN l Z a0 hw) rfl d22_1 (q := 4) rfl (by decide) rfl (na := 0) (by decide +kernel) rfl (by decide) (W := 0) rfl (by decide) (by decide) (by decide) (k' := 0) (n' := 0) rfl rfl ?_
  rintro _ _ ⟨rfl, rfl⟩
  show Go _ _ _ _ _ _ _ _ _ _ []
  have hI1 := hI
  obtain ⟨lN, d, c, w0, hL, hb, hmin, hdw, hwd, hw256, hlN, hnt⟩ := own_head (m := m) hZ hG hD hI1 ht hfil hm hmn
  have hge : ¬ Int32.ofNat lN < 0 := own_nn (by have := hZ.1; omega)
  refine Go.aloadN C d22_4 rfl rfl rfl ?_
  refine Go.callP C (y := yN9) (a := w) (as := []) (rest := []) (wd hw 66 rfl) (wd hw 67 rfl) (sel_priv (y := yN9) (wd hw 19 rfl) (wd hw 67 rfl) (wd hw 68 rfl) (by decide)) (wd hw 68 rfl) (wd hw 69 rfl) (wd hw 20 rfl) (fun _ r => r.exa 3 rfl) (own_low1 l Z a0 hw hZ.1 (InvK.inv hI1) hL) rfl d22_5 (q := 8) rfl (by decide) rfl (na := 0) (by decide +kernel) rfl (by decide) (W := 0) rfl (by decide) (by decide) (by decide) (k' := 0) (n' := 0) rfl rfl ?_
  rintro _ _ ⟨rfl, rfl⟩
  show Go _ _ _ _ _ _ _ _ _ _ [(.int (Int32.ofNat lN))]
  refine Go.istoreN C d22_8 rfl (Ls' := #[.val (.ref w), .val (.int (Int32.ofNat lN))]) rfl ?_
  refine Go.iloadN C d22_9 rfl rfl ?_
  refine Go.ifYes C d22_10 (by decide) (q := 19) rfl (XT.i0_ge_t hge) ?_
  refine Go.aloadN C d22_19 rfl rfl rfl ?_
  refine Go.iloadN C d22_20 rfl rfl ?_
  refine Go.aloadN C d22_21 rfl rfl rfl ?_
  refine Go.iloadN C d22_22 rfl rfl ?_
  refine Go.callP C (y := yN15) (a := w) (as := [(.int (Int32.ofNat lN))]) (rest := [(.int (Int32.ofNat lN)), (.ref w)]) (wd hw 104 rfl) (wd hw 105 rfl) (sel_priv (y := yN15) (wd hw 19 rfl) (wd hw 105 rfl) (wd hw 106 rfl) (by decide)) (wd hw 106 rfl) (wd hw 107 rfl) (wd hw 20 rfl) (fun _ r => r.exa 3 rfl) (own_ffs1 l Z a0 hw hZ (InvK.inv hI1) hb hmin hdw hwd hw256) rfl d22_23 (q := 26) rfl (by decide) rfl (na := 1) (by decide +kernel) rfl (by decide) (W := 2) rfl (by decide) (by decide) (by decide) (k' := 0) (n' := 0) rfl rfl ?_
  rintro _ _ ⟨rfl, rfl⟩
  show Go _ _ _ _ _ _ _ _ _ _ [(.int (Int32.ofNat d)), (.int (Int32.ofNat lN)), (.ref w)]
  refine Go.pick (M' := (wE w rA (Int32.ofNat sn) dm bt sA fA cA tk 0 :: tE t0 .null .null (D 0) (nx 0) (p 0) (s 0) :: tE t1 .null .null (D 1) (nx 1) (p 1) (s 1) :: tE t2 .null .null (D 2) (nx 2) (p 2) (s 2) :: aS sA vs :: aF fA fs :: aI cA cs :: aT rA rv :: LS)) 8 [3, 0, 1, 2, 4, 5, 6, 7] (by decide) (by decide) rfl ?_
  refine Go.callP C (y := yN18) (a := w) (as := [(.int (Int32.ofNat lN)), (.int (Int32.ofNat d))]) (rest := []) (wd hw 114 rfl) (wd hw 115 rfl) (sel_priv (y := yN18) (wd hw 19 rfl) (wd hw 115 rfl) (wd hw 116 rfl) (by decide)) (wd hw 116 rfl) (wd hw 117 rfl) (wd hw 20 rfl) (fun _ r => r.exa 0 rfl) (m_stk l Z a0 hw _) rfl d22_26 (q := 29) rfl (by decide) rfl (na := 2) (by decide +kernel) rfl (by decide) (W := 0) rfl (by decide) (by decide) (by decide) (k' := 0) (n' := 0) rfl rfl ?_
  rintro _ _ ⟨rfl, rfl⟩
  show Go _ _ _ _ _ _ _ _ _ _ [(.long (own_stk (Int32.ofNat sn) tk (Int32.ofNat lN) (Int32.ofNat d)))]
  refine Go.retL C rfl d22_29 (by decide) (by decide) ?_
  exact ⟨_, rfl, hnt⟩
theorem m_neF (l : Launch) (Z : State) (a0 : Array Value) (hw : HW Z a0) {t0 t1 t2 : Addr} {w sA fA cA rA : Addr} {dm : Int64} {bt : Int32} {tk : Int64} {rv : List Value} {D : Nat → Int64} {s : Nat → Int32} {p nx : Nat → Value} {vs fs cs : List Value} {LS : List Ent} {n b sn t m : Nat} {zs : Nat → Nat} {dN : Nat → Nat} {B : List Bk} {R ks : List Nat} {Y : List Nat} (hZ : Zs (Int32.ofNat sn) bt n zs) (hG : Geo sn dm n b zs) (hD : ∀ i, i < 3 → (D i).toInt = dN i ∧ dN i < 2 ^ b) (hI : InvK (own_t3 t0 t1 t2) (Int32.ofNat sn) dm tk n zs D p nx vs fs cs LS B R ks) (ht : tk.toInt = t) (hY : (own_fl B).Perm (1 :: Y)) (hT : ∀ a b, a < 3 → b < 3 → a ≠ b → own_t3 t0 t1 t2 a ≠ own_t3 t0 t1 t2 b) (hx0 : rv[(0 : Int32).toNatClampNeg]? = some (.ref t1)) (hpn : ¬ (p 1) = .null) (hpr : (p 1).isRef = true) (hfil : ∀ i ∈ Y, t ≤ dN i) (hm : ∃ i ∈ Y, dN i = m) (hmn : ∀ i ∈ Y, m ≤ dN i) :
    Met l Z yN7 prog_12_method_4_code 2 (some .long) { frames := 8, cells := 0, slots := 0, locals := 180 } #[(.ref w)] (tE t0 .null .null (D 0) (nx 0) (p 0) (s 0) :: tE t1 .null .null (D 1) (nx 1) (p 1) (s 1) :: tE t2 .null .null (D 2) (nx 2) (p 2) (s 2) :: wE w rA (Int32.ofNat sn) dm bt sA fA cA tk 1 :: aS sA vs :: aF fA fs :: aI cA cs :: aT rA rv :: LS) (fun r M' => ∃ nt : Int64, r = some (.long nt) ∧ nt.toInt = ((own_ev sn (own_lvl sn t m) m : Nat) : Int)) := by
  refine Met.of_go pn_22 (Ls := #[.val (.ref w), .unset]) (fun m => rfl) ?_
  intro E C
  refine Go.aloadN C d22_0 rfl rfl rfl ?_
  refine Go.callP C (y := yN8) (a := w) (as := []) (rest := []) (wd hw 60 rfl) (wd hw 61 rfl) (sel_priv (y := yN8) (wd hw 19 rfl) (wd hw 61 rfl) (wd hw 62 rfl) (by decide)) (wd hw 62 rfl) (wd hw 63 rfl) (wd hw 20 rfl) (fun _ r => r.exa 3 rfl) (m_urF l Z a0 hw hZ hI hY hT hx0 hpn hpr) rfl d22_1 (q := 4) rfl (by decide) rfl (na := 0) (by decide +kernel) rfl (by decide) (W := 0) rfl (by decide) (by decide) (by decide) (k' := 0) (n' := 0) rfl rfl ?_
  rintro _ _ ⟨rfl, p1, nx1, vs1, fs1, cs1, LS1, B1, rv1, rfl, hI1, hY1⟩
  show Go _ _ _ _ _ _ _ _ _ _ []
  obtain ⟨lN, d, c, w0, hL, hb, hmin, hdw, hwd, hw256, hlN, hnt⟩ := own_head (m := m) hZ hG hD hI1 ht (fun i hi => hfil i (hY1.subset hi)) (hm.elim fun i h => ⟨i, hY1.symm.subset h.1, h.2⟩) (fun i hi => hmn i (hY1.subset hi))
  have hge : ¬ Int32.ofNat lN < 0 := own_nn (by have := hZ.1; omega)
  refine Go.aloadN C d22_4 rfl rfl rfl ?_
  refine Go.callP C (y := yN9) (a := w) (as := []) (rest := []) (wd hw 66 rfl) (wd hw 67 rfl) (sel_priv (y := yN9) (wd hw 19 rfl) (wd hw 67 rfl) (wd hw 68 rfl) (by decide)) (wd hw 68 rfl) (wd hw 69 rfl) (wd hw 20 rfl) (fun _ r => r.exa 3 rfl) (own_low1 l Z a0 hw hZ.1 (InvK.inv hI1) hL) rfl d22_5 (q := 8) rfl (by decide) rfl (na := 0) (by decide +kernel) rfl (by decide) (W := 0) rfl (by decide) (by decide) (by decide) (k' := 0) (n' := 0) rfl rfl ?_
  rintro _ _ ⟨rfl, rfl⟩
  show Go _ _ _ _ _ _ _ _ _ _ [(.int (Int32.ofNat lN))]
  refine Go.istoreN C d22_8 rfl (Ls' := #[.val (.ref w), .val (.int (Int32.ofNat lN))]) rfl ?_
  refine Go.iloadN C d22_9 rfl rfl ?_
  refine Go.ifYes C d22_10 (by decide) (q := 19) rfl (XT.i0_ge_t hge) ?_
  refine Go.aloadN C d22_19 rfl rfl rfl ?_
  refine Go.iloadN C d22_20 rfl rfl ?_
  refine Go.aloadN C d22_21 rfl rfl rfl ?_
  refine Go.iloadN C d22_22 rfl rfl ?_
  refine Go.callP C (y := yN15) (a := w) (as := [(.int (Int32.ofNat lN))]) (rest := [(.int (Int32.ofNat lN)), (.ref w)]) (wd hw 104 rfl) (wd hw 105 rfl) (sel_priv (y := yN15) (wd hw 19 rfl) (wd hw 105 rfl) (wd hw 106 rfl) (by decide)) (wd hw 106 rfl) (wd hw 107 rfl) (wd hw 20 rfl) (fun _ r => r.exa 3 rfl) (own_ffs1 l Z a0 hw hZ (InvK.inv hI1) hb hmin hdw hwd hw256) rfl d22_23 (q := 26) rfl (by decide) rfl (na := 1) (by decide +kernel) rfl (by decide) (W := 2) rfl (by decide) (by decide) (by decide) (k' := 0) (n' := 0) rfl rfl ?_
  rintro _ _ ⟨rfl, rfl⟩
  show Go _ _ _ _ _ _ _ _ _ _ [(.int (Int32.ofNat d)), (.int (Int32.ofNat lN)), (.ref w)]
  refine Go.pick (M' := (wE w rA (Int32.ofNat sn) dm bt sA fA cA tk 0 :: tE t0 .null .null (D 0) (nx1 0) (p1 0) (s 0) :: tE t1 .null .null (D 1) (nx1 1) (p1 1) (s 1) :: tE t2 .null .null (D 2) (nx1 2) (p1 2) (s 2) :: aS sA vs1 :: aF fA fs1 :: aI cA cs1 :: aT rA rv1 :: LS1)) 8 [3, 0, 1, 2, 4, 5, 6, 7] (by decide) (by decide) rfl ?_
  refine Go.callP C (y := yN18) (a := w) (as := [(.int (Int32.ofNat lN)), (.int (Int32.ofNat d))]) (rest := []) (wd hw 114 rfl) (wd hw 115 rfl) (sel_priv (y := yN18) (wd hw 19 rfl) (wd hw 115 rfl) (wd hw 116 rfl) (by decide)) (wd hw 116 rfl) (wd hw 117 rfl) (wd hw 20 rfl) (fun _ r => r.exa 0 rfl) (m_stk l Z a0 hw _) rfl d22_26 (q := 29) rfl (by decide) rfl (na := 2) (by decide +kernel) rfl (by decide) (W := 0) rfl (by decide) (by decide) (by decide) (k' := 0) (n' := 0) rfl rfl ?_
  rintro _ _ ⟨rfl, rfl⟩
  show Go _ _ _ _ _ _ _ _ _ _ [(.long (own_stk (Int32.ofNat sn) tk (Int32.ofNat lN) (Int32.ofNat d)))]
  refine Go.retL C rfl d22_29 (by decide) (by decide) ?_
  exact ⟨_, rfl, hnt⟩
theorem m_neZ (l : Launch) (Z : State) (a0 : Array Value) (hw : HW Z a0) {t0 t1 t2 : Addr} {w sA fA cA rA : Addr} {dm : Int64} {bt : Int32} {tk : Int64} {rv : List Value} {D : Nat → Int64} {s : Nat → Int32} {p nx : Nat → Value} {vs fs cs : List Value} {LS : List Ent} {n b sn t m : Nat} {zs : Nat → Nat} {dN : Nat → Nat} {B : List Bk} {R ks : List Nat} (hZ : Zs (Int32.ofNat sn) bt n zs) (hG : Geo sn dm n b zs) (hD : ∀ i, i < 3 → (D i).toInt = dN i ∧ dN i < 2 ^ b) (hI : InvK (own_t3 t0 t1 t2) (Int32.ofNat sn) dm tk n zs D p nx vs fs cs LS B R ks) (ht : tk.toInt = t) (hx0 : rv[(0 : Int32).toNatClampNeg]? = some (.ref t1)) (hpn : (p 1) = .null) (hfil : ∀ i ∈ own_fl B, t ≤ dN i) (hm : ∃ i ∈ own_fl B, dN i = m) (hmn : ∀ i ∈ own_fl B, m ≤ dN i) :
    Met l Z yN7 prog_12_method_4_code 2 (some .long) { frames := 8, cells := 0, slots := 0, locals := 180 } #[(.ref w)] (tE t0 .null .null (D 0) (nx 0) (p 0) (s 0) :: tE t1 .null .null (D 1) (nx 1) (p 1) (s 1) :: tE t2 .null .null (D 2) (nx 2) (p 2) (s 2) :: wE w rA (Int32.ofNat sn) dm bt sA fA cA tk 1 :: aS sA vs :: aF fA fs :: aI cA cs :: aT rA rv :: LS) (fun r M' => ∃ nt : Int64, r = some (.long nt) ∧ nt.toInt = ((own_ev sn (own_lvl sn t m) m : Nat) : Int)) := by
  refine Met.of_go pn_22 (Ls := #[.val (.ref w), .unset]) (fun m => rfl) ?_
  intro E C
  refine Go.aloadN C d22_0 rfl rfl rfl ?_
  refine Go.callP C (y := yN8) (a := w) (as := []) (rest := []) (wd hw 60 rfl) (wd hw 61 rfl) (sel_priv (y := yN8) (wd hw 19 rfl) (wd hw 61 rfl) (wd hw 62 rfl) (by decide)) (wd hw 62 rfl) (wd hw 63 rfl) (wd hw 20 rfl) (fun _ r => r.exa 3 rfl) (m_urZ l Z a0 hw hx0 hpn) rfl d22_1 (q := 4) rfl (by decide) rfl (na := 0) (by decide +kernel) rfl (by decide) (W := 0) rfl (by decide) (by decide) (by decide) (k' := 0) (n' := 0) rfl rfl ?_
  rintro _ _ ⟨rfl, rv1, rfl⟩
  show Go _ _ _ _ _ _ _ _ _ _ []
  have hI1 := hI
  obtain ⟨lN, d, c, w0, hL, hb, hmin, hdw, hwd, hw256, hlN, hnt⟩ := own_head (m := m) hZ hG hD hI1 ht hfil hm hmn
  have hge : ¬ Int32.ofNat lN < 0 := own_nn (by have := hZ.1; omega)
  refine Go.aloadN C d22_4 rfl rfl rfl ?_
  refine Go.callP C (y := yN9) (a := w) (as := []) (rest := []) (wd hw 66 rfl) (wd hw 67 rfl) (sel_priv (y := yN9) (wd hw 19 rfl) (wd hw 67 rfl) (wd hw 68 rfl) (by decide)) (wd hw 68 rfl) (wd hw 69 rfl) (wd hw 20 rfl) (fun _ r => r.exa 3 rfl) (own_low1 l Z a0 hw hZ.1 (InvK.inv hI1) hL) rfl d22_5 (q := 8) rfl (by decide) rfl (na := 0) (by decide +kernel) rfl (by decide) (W := 0) rfl (by decide) (by decide) (by decide) (k' := 0) (n' := 0) rfl rfl ?_
  rintro _ _ ⟨rfl, rfl⟩
  show Go _ _ _ _ _ _ _ _ _ _ [(.int (Int32.ofNat lN))]
  refine Go.istoreN C d22_8 rfl (Ls' := #[.val (.ref w), .val (.int (Int32.ofNat lN))]) rfl ?_
  refine Go.iloadN C d22_9 rfl rfl ?_
  refine Go.ifYes C d22_10 (by decide) (q := 19) rfl (XT.i0_ge_t hge) ?_
  refine Go.aloadN C d22_19 rfl rfl rfl ?_
  refine Go.iloadN C d22_20 rfl rfl ?_
  refine Go.aloadN C d22_21 rfl rfl rfl ?_
  refine Go.iloadN C d22_22 rfl rfl ?_
  refine Go.callP C (y := yN15) (a := w) (as := [(.int (Int32.ofNat lN))]) (rest := [(.int (Int32.ofNat lN)), (.ref w)]) (wd hw 104 rfl) (wd hw 105 rfl) (sel_priv (y := yN15) (wd hw 19 rfl) (wd hw 105 rfl) (wd hw 106 rfl) (by decide)) (wd hw 106 rfl) (wd hw 107 rfl) (wd hw 20 rfl) (fun _ r => r.exa 3 rfl) (own_ffs1 l Z a0 hw hZ (InvK.inv hI1) hb hmin hdw hwd hw256) rfl d22_23 (q := 26) rfl (by decide) rfl (na := 1) (by decide +kernel) rfl (by decide) (W := 2) rfl (by decide) (by decide) (by decide) (k' := 0) (n' := 0) rfl rfl ?_
  rintro _ _ ⟨rfl, rfl⟩
  show Go _ _ _ _ _ _ _ _ _ _ [(.int (Int32.ofNat d)), (.int (Int32.ofNat lN)), (.ref w)]
  refine Go.pick (M' := (wE w rA (Int32.ofNat sn) dm bt sA fA cA tk 0 :: tE t0 .null .null (D 0) (nx 0) (p 0) (s 0) :: tE t1 .null .null (D 1) (nx 1) (p 1) (s 1) :: tE t2 .null .null (D 2) (nx 2) (p 2) (s 2) :: aS sA vs :: aF fA fs :: aI cA cs :: aT rA rv1 :: LS)) 8 [3, 0, 1, 2, 4, 5, 6, 7] (by decide) (by decide) rfl ?_
  refine Go.callP C (y := yN18) (a := w) (as := [(.int (Int32.ofNat lN)), (.int (Int32.ofNat d))]) (rest := []) (wd hw 114 rfl) (wd hw 115 rfl) (sel_priv (y := yN18) (wd hw 19 rfl) (wd hw 115 rfl) (wd hw 116 rfl) (by decide)) (wd hw 116 rfl) (wd hw 117 rfl) (wd hw 20 rfl) (fun _ r => r.exa 0 rfl) (m_stk l Z a0 hw _) rfl d22_26 (q := 29) rfl (by decide) rfl (na := 2) (by decide +kernel) rfl (by decide) (W := 0) rfl (by decide) (by decide) (by decide) (k' := 0) (n' := 0) rfl rfl ?_
  rintro _ _ ⟨rfl, rfl⟩
  show Go _ _ _ _ _ _ _ _ _ _ [(.long (own_stk (Int32.ofNat sn) tk (Int32.ofNat lN) (Int32.ofNat d)))]
  refine Go.retL C rfl d22_29 (by decide) (by decide) ?_
  exact ⟨_, rfl, hnt⟩
def own_HB (N : Nat) (u : Int64) (m w : Nat) : Prop := ∃ x : Nat, u.toInt = x ∧ x = N / 2 ^ m ∧ 1 ≤ x ∧ x < 2 ^ w
theorem own_ofadd (m k : Nat) {c : Int32} (h : Int32.ofNat k = c) : Int32.ofNat m + c = Int32.ofNat (m + k) := by rw [← h, Int32.ofNat_add]
theorem own_h5 {a : Int64} {N : Nat} (hN : a.toInt = N) (h0 : 0 < N) : own_HB N a 0 64 := by
  have := Int64.toInt_lt a
  exact ⟨N, hN, by simp, h0, by omega⟩
theorem own_ux {N m w k : Nat} {u : Int64} {y : Int32} (h : own_HB N u m w) (hy : (y.toInt64.toUInt64 &&& Int64.toUInt64 63).toNat = k) (hk : k < 64) : (XT.ushrL u y).toInt = ((N / 2 ^ m / 2 ^ k : Nat) : Int) := by
  obtain ⟨x, h1, h2, h3, h4⟩ := h
  rw [own_usL (by omega) hy hk, h1, h2]; simp
theorem own_hs {N m w k : Nat} {u : Int64} {y : Int32} (h : own_HB N u m w) (hy : (y.toInt64.toUInt64 &&& Int64.toUInt64 63).toNat = k) (hk : k < 64) (hne : ¬ XT.ushrL u y = (0 : Int64)) (hkw : w = 2 * k := by rfl) : own_HB N (XT.ushrL u y) (m + k) k := by
  have e := own_ux h hy hk
  obtain ⟨x, h1, h2, h3, h4⟩ := h
  refine ⟨N / 2 ^ m / 2 ^ k, e, ?_, ?_, ?_⟩
  · rw [Nat.div_div_eq_div_mul, Nat.pow_add]
  · refine Nat.pos_of_ne_zero fun z => hne (Int64.toInt_inj.mp ?_)
    rw [e, z]; rfl
  · apply Nat.div_lt_of_lt_mul
    rw [← Nat.pow_add, ← h2, show k + k = w by omega]
    exact h4
theorem own_hz {N m w k : Nat} {u : Int64} {y : Int32} (h : own_HB N u m w) (hy : (y.toInt64.toUInt64 &&& Int64.toUInt64 63).toNat = k) (hk : k < 64) (hz : XT.ushrL u y = (0 : Int64)) : own_HB N u m k := by
  have e := own_ux h hy hk
  obtain ⟨x, h1, h2, h3, h4⟩ := h
  refine ⟨x, h1, h2, h3, ?_⟩
  rw [hz] at e
  have e : (0 : Int) = ((N / 2 ^ m / 2 ^ k : Nat) : Int) := e
  have e' : N / 2 ^ m / 2 ^ k = 0 := by omega
  rw [← h2] at e'
  exact (Nat.div_eq_zero_iff_lt (Nat.two_pow_pos k)).mp e'
theorem own_hlog {N m : Nat} (h : N / 2 ^ m = 1) : Nat.log2 N = m := by
  have hp := Nat.two_pow_pos m
  apply own_log
  · have := Nat.div_mul_le_self N (2 ^ m); rw [h] at this; omega
  · have := Nat.lt_mul_div_succ N hp; rw [h] at this; rw [Nat.pow_succ]; omega
theorem own_hl0 {N m : Nat} {u : Int64} (h : own_HB N u m 2) (hz : XT.ushrL u (1 : Int32) = (0 : Int64)) : Int32.ofNat m = Int32.ofNat (Nat.log2 N) := by
  obtain ⟨x, h1, h2, h3, h4⟩ := own_hz (k := 1) h (by decide) (by decide) hz
  rw [own_hlog (by omega : N / 2 ^ m = 1)]
theorem own_hl1 {N m : Nat} {u : Int64} (h : own_HB N u m 2) (hz : ¬ XT.ushrL u (1 : Int32) = (0 : Int64)) : Int32.ofNat m + (1 : Int32) = Int32.ofNat (Nat.log2 N) := by
  have e := own_ux (k := 1) (y := (1 : Int32)) h (by decide) (by decide)
  obtain ⟨x, h1, h2, h3, h4⟩ := h
  have hne : N / 2 ^ m / 2 ^ 1 ≠ 0 := fun z => hz (Int64.toInt_inj.mp (by rw [e, z]; rfl))
  have hq : N / 2 ^ (m + 1) = 1 := by
    rw [Nat.pow_succ, ← Nat.div_div_eq_div_mul]
    omega
  rw [own_hlog hq, own_ofadd m 1 (c := (1 : Int32)) rfl]
theorem d23_0 : decode method_2_code 0 = .ok (.lload_n 0, 1) := by decide +kernel
theorem d23_1 : decode method_2_code 1 = .ok (.lstore_n 2, 1) := by decide +kernel
theorem d23_2 : decode method_2_code 2 = .ok (.iconst 0, 1) := by decide +kernel
theorem d23_3 : decode method_2_code 3 = .ok (.istore 4, 2) := by decide +kernel
theorem d23_86 : decode method_2_code 86 = .ok (.lload_n 2, 1) := by decide +kernel
theorem d23_87 : decode method_2_code 87 = .ok (.iconst 1, 1) := by decide +kernel
theorem d23_88 : decode method_2_code 88 = .ok (.lushr, 1) := by decide +kernel
theorem d23_89 : decode method_2_code 89 = .ok (.lconst 0, 1) := by decide +kernel
theorem d23_90 : decode method_2_code 90 = .ok (.lcmp, 1) := by decide +kernel
theorem d23_91 : decode method_2_code 91 = .ok (.ifCond .eq 6, 3) := by decide +kernel
theorem d23_97 : decode method_2_code 97 = .ok (.iload 4, 2) := by decide +kernel
theorem d23_99 : decode method_2_code 99 = .ok (.ireturn, 1) := by decide +kernel
theorem d23_94 : decode method_2_code 94 = .ok (.iinc 4 1, 3) := by decide +kernel
theorem d23_71 : decode method_2_code 71 = .ok (.lload_n 2, 1) := by decide +kernel
theorem d23_72 : decode method_2_code 72 = .ok (.iconst 2, 1) := by decide +kernel
theorem d23_73 : decode method_2_code 73 = .ok (.lushr, 1) := by decide +kernel
theorem d23_74 : decode method_2_code 74 = .ok (.lconst 0, 1) := by decide +kernel
theorem d23_75 : decode method_2_code 75 = .ok (.lcmp, 1) := by decide +kernel
theorem d23_76 : decode method_2_code 76 = .ok (.ifCond .eq 10, 3) := by decide +kernel
theorem d23_79 : decode method_2_code 79 = .ok (.iinc 4 2, 3) := by decide +kernel
theorem d23_82 : decode method_2_code 82 = .ok (.lload_n 2, 1) := by decide +kernel
theorem d23_83 : decode method_2_code 83 = .ok (.iconst 2, 1) := by decide +kernel
theorem d23_84 : decode method_2_code 84 = .ok (.lushr, 1) := by decide +kernel
theorem d23_85 : decode method_2_code 85 = .ok (.lstore_n 2, 1) := by decide +kernel
theorem d23_56 : decode method_2_code 56 = .ok (.lload_n 2, 1) := by decide +kernel
theorem d23_57 : decode method_2_code 57 = .ok (.iconst 4, 1) := by decide +kernel
theorem d23_58 : decode method_2_code 58 = .ok (.lushr, 1) := by decide +kernel
theorem d23_59 : decode method_2_code 59 = .ok (.lconst 0, 1) := by decide +kernel
theorem d23_60 : decode method_2_code 60 = .ok (.lcmp, 1) := by decide +kernel
theorem d23_61 : decode method_2_code 61 = .ok (.ifCond .eq 10, 3) := by decide +kernel
theorem d23_64 : decode method_2_code 64 = .ok (.iinc 4 4, 3) := by decide +kernel
theorem d23_67 : decode method_2_code 67 = .ok (.lload_n 2, 1) := by decide +kernel
theorem d23_68 : decode method_2_code 68 = .ok (.iconst 4, 1) := by decide +kernel
theorem d23_69 : decode method_2_code 69 = .ok (.lushr, 1) := by decide +kernel
theorem d23_70 : decode method_2_code 70 = .ok (.lstore_n 2, 1) := by decide +kernel
theorem d23_39 : decode method_2_code 39 = .ok (.lload_n 2, 1) := by decide +kernel
theorem d23_40 : decode method_2_code 40 = .ok (.bipush 8, 2) := by decide +kernel
theorem d23_42 : decode method_2_code 42 = .ok (.lushr, 1) := by decide +kernel
theorem d23_43 : decode method_2_code 43 = .ok (.lconst 0, 1) := by decide +kernel
theorem d23_44 : decode method_2_code 44 = .ok (.lcmp, 1) := by decide +kernel
theorem d23_45 : decode method_2_code 45 = .ok (.ifCond .eq 11, 3) := by decide +kernel
theorem d23_48 : decode method_2_code 48 = .ok (.iinc 4 8, 3) := by decide +kernel
theorem d23_51 : decode method_2_code 51 = .ok (.lload_n 2, 1) := by decide +kernel
theorem d23_52 : decode method_2_code 52 = .ok (.bipush 8, 2) := by decide +kernel
theorem d23_54 : decode method_2_code 54 = .ok (.lushr, 1) := by decide +kernel
theorem d23_55 : decode method_2_code 55 = .ok (.lstore_n 2, 1) := by decide +kernel
theorem d23_22 : decode method_2_code 22 = .ok (.lload_n 2, 1) := by decide +kernel
theorem d23_23 : decode method_2_code 23 = .ok (.bipush 16, 2) := by decide +kernel
theorem d23_25 : decode method_2_code 25 = .ok (.lushr, 1) := by decide +kernel
theorem d23_26 : decode method_2_code 26 = .ok (.lconst 0, 1) := by decide +kernel
theorem d23_27 : decode method_2_code 27 = .ok (.lcmp, 1) := by decide +kernel
theorem d23_28 : decode method_2_code 28 = .ok (.ifCond .eq 11, 3) := by decide +kernel
theorem d23_31 : decode method_2_code 31 = .ok (.iinc 4 16, 3) := by decide +kernel
theorem d23_34 : decode method_2_code 34 = .ok (.lload_n 2, 1) := by decide +kernel
theorem d23_35 : decode method_2_code 35 = .ok (.bipush 16, 2) := by decide +kernel
theorem d23_37 : decode method_2_code 37 = .ok (.lushr, 1) := by decide +kernel
theorem d23_38 : decode method_2_code 38 = .ok (.lstore_n 2, 1) := by decide +kernel
theorem d23_5 : decode method_2_code 5 = .ok (.lload_n 2, 1) := by decide +kernel
theorem d23_6 : decode method_2_code 6 = .ok (.bipush 32, 2) := by decide +kernel
theorem d23_8 : decode method_2_code 8 = .ok (.lushr, 1) := by decide +kernel
theorem d23_9 : decode method_2_code 9 = .ok (.lconst 0, 1) := by decide +kernel
theorem d23_10 : decode method_2_code 10 = .ok (.lcmp, 1) := by decide +kernel
theorem d23_11 : decode method_2_code 11 = .ok (.ifCond .eq 11, 3) := by decide +kernel
theorem d23_14 : decode method_2_code 14 = .ok (.iinc 4 32, 3) := by decide +kernel
theorem d23_17 : decode method_2_code 17 = .ok (.lload_n 2, 1) := by decide +kernel
theorem d23_18 : decode method_2_code 18 = .ok (.bipush 32, 2) := by decide +kernel
theorem d23_20 : decode method_2_code 20 = .ok (.lushr, 1) := by decide +kernel
theorem d23_21 : decode method_2_code 21 = .ok (.lstore_n 2, 1) := by decide +kernel
theorem pn_23 : plainFor yN21 = true := by first | (apply plainFor_of_name; simp [plainName, overriddenIn]; done) | decide +kernel
theorem m_hb (l : Launch) (Z : State) (a0 : Array Value) (hw : HW Z a0) (F : List Ent) {a : Int64} {N : Nat} (hN : a.toInt = N) (h0 : 0 < N) :
    Met l Z yN21 method_2_code 5 (some .int) { frames := 0, cells := 0, slots := 0, locals := 0 } #[(.long a)] (F) (fun r M' => r = some (.int (Int32.ofNat (Nat.log2 N))) ∧ M' = F) := by
  refine Met.of_go pn_23 (Ls := #[.val (.long a), .second, .unset, .unset, .unset]) (fun m => rfl) ?_
  intro E C
  refine Go.lloadN C d23_0 rfl rfl ?_
  refine Go.lstoreN C d23_1 rfl (Ls' := #[.val (.long a), .second, .val (.long a), .second, .unset]) rfl ?_
  refine Go.iconst C d23_2 rfl (v := (0 : Int32)) rfl ?_
  refine Go.istore C d23_3 rfl (Ls' := #[.val (.long a), .second, .val (.long a), .second, .val (.int (0 : Int32))]) rfl ?_
  have H5 : own_HB N a 0 64 := own_h5 hN h0
  show Go l Z { frames := 0, cells := 0, slots := 0, locals := 0 } E (fun r M' => r = some (.int (Int32.ofNat (Nat.log2 N))) ∧ M' = F) (F) 0 0 5 #[.val (.long a), .second, .val (.long a), .second, .val (.int (Int32.ofNat 0))] []
  have J22 : ∀ (u22 : Int64) (m22 : Nat), own_HB N u22 m22 32 → Go l Z { frames := 0, cells := 0, slots := 0, locals := 0 } E (fun r M' => r = some (.int (Int32.ofNat (Nat.log2 N))) ∧ M' = F) (F) 0 0 22 #[.val (.long a), .second, .val (.long u22), .second, .val (.int (Int32.ofNat m22))] [] := by
    intro u22 m22 H22
    have J39 : ∀ (u39 : Int64) (m39 : Nat), own_HB N u39 m39 16 → Go l Z { frames := 0, cells := 0, slots := 0, locals := 0 } E (fun r M' => r = some (.int (Int32.ofNat (Nat.log2 N))) ∧ M' = F) (F) 0 0 39 #[.val (.long a), .second, .val (.long u39), .second, .val (.int (Int32.ofNat m39))] [] := by
      intro u39 m39 H39
      have J56 : ∀ (u56 : Int64) (m56 : Nat), own_HB N u56 m56 8 → Go l Z { frames := 0, cells := 0, slots := 0, locals := 0 } E (fun r M' => r = some (.int (Int32.ofNat (Nat.log2 N))) ∧ M' = F) (F) 0 0 56 #[.val (.long a), .second, .val (.long u56), .second, .val (.int (Int32.ofNat m56))] [] := by
        intro u56 m56 H56
        have J71 : ∀ (u71 : Int64) (m71 : Nat), own_HB N u71 m71 4 → Go l Z { frames := 0, cells := 0, slots := 0, locals := 0 } E (fun r M' => r = some (.int (Int32.ofNat (Nat.log2 N))) ∧ M' = F) (F) 0 0 71 #[.val (.long a), .second, .val (.long u71), .second, .val (.int (Int32.ofNat m71))] [] := by
          intro u71 m71 H71
          have J86 : ∀ (u86 : Int64) (m86 : Nat), own_HB N u86 m86 2 → Go l Z { frames := 0, cells := 0, slots := 0, locals := 0 } E (fun r M' => r = some (.int (Int32.ofNat (Nat.log2 N))) ∧ M' = F) (F) 0 0 86 #[.val (.long a), .second, .val (.long u86), .second, .val (.int (Int32.ofNat m86))] [] := by
            intro u86 m86 H86
            refine Go.lloadN C d23_86 rfl rfl ?_
            refine Go.iconst C d23_87 rfl (v := (1 : Int32)) rfl ?_
            refine Go.lushr C d23_88 rfl ?_
            refine Go.lconst C d23_89 rfl (v := (0 : Int64)) rfl ?_
            refine Go.lcmpif C d23_90 rfl d23_91 (by decide) (q := 97) rfl (q' := 94) rfl (fun (h90_1 : (XT.ushrL u86 (1 : Int32)) = (0 : Int64)) => ?_) (fun (h90_1 : ¬ (XT.ushrL u86 (1 : Int32)) = (0 : Int64)) => ?_)
            · refine Go.iload C d23_97 rfl rfl ?_
              refine Go.retI C rfl d23_99 (by decide) (by decide) ?_
              exact ⟨congrArg (fun z => some (Value.int z)) (own_hl0 H86 h90_1), rfl⟩
            · refine Go.iinc C d23_94 rfl rfl (v := ((Int32.ofNat m86) + (1 : Int32))) (by first | rfl | decide) (Ls' := #[.val (.long a), .second, .val (.long u86), .second, .val (.int ((Int32.ofNat m86) + (1 : Int32)))]) rfl ?_
              refine Go.iload C d23_97 rfl rfl ?_
              refine Go.retI C rfl d23_99 (by decide) (by decide) ?_
              exact ⟨congrArg (fun z => some (Value.int z)) (own_hl1 H86 h90_1), rfl⟩
          refine Go.lloadN C d23_71 rfl rfl ?_
          refine Go.iconst C d23_72 rfl (v := (2 : Int32)) rfl ?_
          refine Go.lushr C d23_73 rfl ?_
          refine Go.lconst C d23_74 rfl (v := (0 : Int64)) rfl ?_
          refine Go.lcmpif C d23_75 rfl d23_76 (by decide) (q := 86) rfl (q' := 79) rfl (fun (h75_2 : (XT.ushrL u71 (2 : Int32)) = (0 : Int64)) => ?_) (fun (h75_2 : ¬ (XT.ushrL u71 (2 : Int32)) = (0 : Int64)) => ?_)
          · exact J86 _ _ (own_hz (k := 2) H71 (by decide) (by decide) h75_2)
          · refine Go.iinc C d23_79 rfl rfl (v := ((Int32.ofNat m71) + (2 : Int32))) (by first | rfl | decide) (Ls' := #[.val (.long a), .second, .val (.long u71), .second, .val (.int ((Int32.ofNat m71) + (2 : Int32)))]) rfl ?_
            refine Go.lloadN C d23_82 rfl rfl ?_
            refine Go.iconst C d23_83 rfl (v := (2 : Int32)) rfl ?_
            refine Go.lushr C d23_84 rfl ?_
            refine Go.lstoreN C d23_85 rfl (Ls' := #[.val (.long a), .second, .val (.long (XT.ushrL u71 (2 : Int32))), .second, .val (.int ((Int32.ofNat m71) + (2 : Int32)))]) rfl ?_
            rw [own_ofadd m71 2 (c := (2 : Int32)) rfl]
            exact J86 _ _ (own_hs (k := 2) H71 (by decide) (by decide) h75_2)
        refine Go.lloadN C d23_56 rfl rfl ?_
        refine Go.iconst C d23_57 rfl (v := (4 : Int32)) rfl ?_
        refine Go.lushr C d23_58 rfl ?_
        refine Go.lconst C d23_59 rfl (v := (0 : Int64)) rfl ?_
        refine Go.lcmpif C d23_60 rfl d23_61 (by decide) (q := 71) rfl (q' := 64) rfl (fun (h60_3 : (XT.ushrL u56 (4 : Int32)) = (0 : Int64)) => ?_) (fun (h60_3 : ¬ (XT.ushrL u56 (4 : Int32)) = (0 : Int64)) => ?_)
        · exact J71 _ _ (own_hz (k := 4) H56 (by decide) (by decide) h60_3)
        · refine Go.iinc C d23_64 rfl rfl (v := ((Int32.ofNat m56) + (4 : Int32))) (by first | rfl | decide) (Ls' := #[.val (.long a), .second, .val (.long u56), .second, .val (.int ((Int32.ofNat m56) + (4 : Int32)))]) rfl ?_
          refine Go.lloadN C d23_67 rfl rfl ?_
          refine Go.iconst C d23_68 rfl (v := (4 : Int32)) rfl ?_
          refine Go.lushr C d23_69 rfl ?_
          refine Go.lstoreN C d23_70 rfl (Ls' := #[.val (.long a), .second, .val (.long (XT.ushrL u56 (4 : Int32))), .second, .val (.int ((Int32.ofNat m56) + (4 : Int32)))]) rfl ?_
          rw [own_ofadd m56 4 (c := (4 : Int32)) rfl]
          exact J71 _ _ (own_hs (k := 4) H56 (by decide) (by decide) h60_3)
      refine Go.lloadN C d23_39 rfl rfl ?_
      refine Go.bipush C d23_40 rfl (v := (8 : Int32)) (by decide) ?_
      refine Go.lushr C d23_42 rfl ?_
      refine Go.lconst C d23_43 rfl (v := (0 : Int64)) rfl ?_
      refine Go.lcmpif C d23_44 rfl d23_45 (by decide) (q := 56) rfl (q' := 48) rfl (fun (h44_4 : (XT.ushrL u39 (8 : Int32)) = (0 : Int64)) => ?_) (fun (h44_4 : ¬ (XT.ushrL u39 (8 : Int32)) = (0 : Int64)) => ?_)
      · exact J56 _ _ (own_hz (k := 8) H39 (by decide) (by decide) h44_4)
      · refine Go.iinc C d23_48 rfl rfl (v := ((Int32.ofNat m39) + (8 : Int32))) (by first | rfl | decide) (Ls' := #[.val (.long a), .second, .val (.long u39), .second, .val (.int ((Int32.ofNat m39) + (8 : Int32)))]) rfl ?_
        refine Go.lloadN C d23_51 rfl rfl ?_
        refine Go.bipush C d23_52 rfl (v := (8 : Int32)) (by decide) ?_
        refine Go.lushr C d23_54 rfl ?_
        refine Go.lstoreN C d23_55 rfl (Ls' := #[.val (.long a), .second, .val (.long (XT.ushrL u39 (8 : Int32))), .second, .val (.int ((Int32.ofNat m39) + (8 : Int32)))]) rfl ?_
        rw [own_ofadd m39 8 (c := (8 : Int32)) rfl]
        exact J56 _ _ (own_hs (k := 8) H39 (by decide) (by decide) h44_4)
    refine Go.lloadN C d23_22 rfl rfl ?_
    refine Go.bipush C d23_23 rfl (v := (16 : Int32)) (by decide) ?_
    refine Go.lushr C d23_25 rfl ?_
    refine Go.lconst C d23_26 rfl (v := (0 : Int64)) rfl ?_
    refine Go.lcmpif C d23_27 rfl d23_28 (by decide) (q := 39) rfl (q' := 31) rfl (fun (h27_5 : (XT.ushrL u22 (16 : Int32)) = (0 : Int64)) => ?_) (fun (h27_5 : ¬ (XT.ushrL u22 (16 : Int32)) = (0 : Int64)) => ?_)
    · exact J39 _ _ (own_hz (k := 16) H22 (by decide) (by decide) h27_5)
    · refine Go.iinc C d23_31 rfl rfl (v := ((Int32.ofNat m22) + (16 : Int32))) (by first | rfl | decide) (Ls' := #[.val (.long a), .second, .val (.long u22), .second, .val (.int ((Int32.ofNat m22) + (16 : Int32)))]) rfl ?_
      refine Go.lloadN C d23_34 rfl rfl ?_
      refine Go.bipush C d23_35 rfl (v := (16 : Int32)) (by decide) ?_
      refine Go.lushr C d23_37 rfl ?_
      refine Go.lstoreN C d23_38 rfl (Ls' := #[.val (.long a), .second, .val (.long (XT.ushrL u22 (16 : Int32))), .second, .val (.int ((Int32.ofNat m22) + (16 : Int32)))]) rfl ?_
      rw [own_ofadd m22 16 (c := (16 : Int32)) rfl]
      exact J39 _ _ (own_hs (k := 16) H22 (by decide) (by decide) h27_5)
  refine Go.lloadN C d23_5 rfl rfl ?_
  refine Go.bipush C d23_6 rfl (v := (32 : Int32)) (by decide) ?_
  refine Go.lushr C d23_8 rfl ?_
  refine Go.lconst C d23_9 rfl (v := (0 : Int64)) rfl ?_
  refine Go.lcmpif C d23_10 rfl d23_11 (by decide) (q := 22) rfl (q' := 14) rfl (fun (h10_6 : (XT.ushrL a (32 : Int32)) = (0 : Int64)) => ?_) (fun (h10_6 : ¬ (XT.ushrL a (32 : Int32)) = (0 : Int64)) => ?_)
  · exact J22 _ _ (own_hz (k := 32) H5 (by decide) (by decide) h10_6)
  · refine Go.iinc C d23_14 rfl rfl (v := ((Int32.ofNat 0) + (32 : Int32))) (by first | rfl | decide) (Ls' := #[.val (.long a), .second, .val (.long a), .second, .val (.int ((Int32.ofNat 0) + (32 : Int32)))]) rfl ?_
    refine Go.lloadN C d23_17 rfl rfl ?_
    refine Go.bipush C d23_18 rfl (v := (32 : Int32)) (by decide) ?_
    refine Go.lushr C d23_20 rfl ?_
    refine Go.lstoreN C d23_21 rfl (Ls' := #[.val (.long a), .second, .val (.long (XT.ushrL a (32 : Int32))), .second, .val (.int ((Int32.ofNat 0) + (32 : Int32)))]) rfl ?_
    rw [own_ofadd 0 32 (c := (32 : Int32)) rfl]
    exact J22 _ _ (own_hs (k := 32) H5 (by decide) (by decide) h10_6)
theorem own_snz {sn : Nat} (h1 : 1 ≤ sn) (h8 : sn ≤ 8) : Int32.ofNat sn ≠ 0 := fun z => by
  have := congrArg Int32.toInt z
  rw [own_toN (by omega), Int32.toInt_zero] at this
  omega
theorem own_evx {x : Int64} {n : Nat} (h : x.toInt = n) (hn : ¬ x = (0 : Int64)) : 0 < n := Nat.pos_of_ne_zero fun z => hn (Int64.toInt_inj.mp (by rw [h, z]; rfl))
theorem own_evA {D tk : Int64} {d t sn : Nat} (hD : D.toInt = d) (ht : tk.toInt = t) (hx : (D ^^^ tk).toInt = ((d ^^^ t : Nat) : Int)) (hz : D ^^^ tk = (0 : Int64)) : D.toInt = ((own_ev sn (own_lvl sn t d) d : Nat) : Int) := by
  rw [hz] at hx
  have h0 : d ^^^ t = 0 := by
    have : (0 : Int) = ((d ^^^ t : Nat) : Int) := hx
    omega
  have e := own_xor0.mp h0
  subst e
  rw [own_lvl0, own_ev0, hD]
theorem own_evB {D tk : Int64} {d t sn : Nat} (hD : D.toInt = d) (ht : tk.toInt = t) (hs1 : 1 ≤ sn) (hs8 : sn ≤ 8) (hx0 : 0 < d ^^^ t) : ((XT.ushrL D (Int32.ofNat (Nat.log2 (d ^^^ t)) / Int32.ofNat sn * Int32.ofNat sn)) <<< ((Int32.ofNat (Nat.log2 (d ^^^ t)) / Int32.ofNat sn * Int32.ofNat sn).toInt64 &&& 63)).toInt = ((own_ev sn (own_lvl sn t d) d : Nat) : Int) := by
  have k1 := Nat.log2_self_le (n := d ^^^ t) (by omega)
  have k2 := Nat.lt_log2_self (n := d ^^^ t)
  have hl : own_lvl sn t d = Nat.log2 (d ^^^ t) / sn := by
    unfold own_lvl
    rw [own_or1 k1 k2]
  have h62 : Nat.log2 (d ^^^ t) ≤ 62 := by
    have := (own_lv_spec2 (own_xorI hD ht) hs1 hs8).2
    rw [own_or1 k1 k2] at this
    exact this
  have hms := Nat.div_mul_le_self (Nat.log2 (d ^^^ t)) sn
  rw [hl]
  generalize Nat.log2 (d ^^^ t) = k at *
  have e : Int32.ofNat k / Int32.ofNat sn * Int32.ofNat sn = Int32.ofNat (k / sn * sn) := by
    have hd := Nat.div_le_self k sn
    have : Int32.ofNat k / Int32.ofNat sn = Int32.ofNat (k / sn) := by
      apply Int32.toInt_inj.mp
      rw [Jvm.Kit.i32_div (by rw [own_toN (by omega), own_toN (by omega)]; omega), own_toN (by omega), own_toN (by omega), own_toN (by omega)]
      rw [Int.tdiv_eq_ediv_of_nonneg (by omega)]; simp
    rw [this, Int32.ofNat_mul]
  rw [e]
  have hu : (XT.ushrL D (Int32.ofNat (k / sn * sn))).toInt = ((d / 2 ^ (k / sn * sn) : Nat) : Int) := by
    rw [own_usL (k := k / sn * sn) (by omega) (own_sh64 ⟨k / sn * sn, by omega⟩) (by omega), hD]; simp
  have hd63 : d < 2 ^ 63 := by have := Int64.toInt_lt D; omega
  have hle : own_ev sn (k / sn) d ≤ d := own_ev_le
  have hc : ((d / 2 ^ (k / sn * sn) : Nat) : Int) * 2 ^ (k / sn * sn) = ((own_ev sn (k / sn) d : Nat) : Int) := by
    unfold own_ev
    simp
  rw [Jvm.Kit.i64_shl _ _ (own_sm64 ⟨k / sn * sn, by omega⟩) (by rw [hu, hc]; omega) (by rw [hu, hc]; omega), hu, hc]
theorem d24_0 : decode method_3_code 0 = .ok (.lload_n 2, 1) := by decide +kernel
theorem d24_1 : decode method_3_code 1 = .ok (.lload_n 0, 1) := by decide +kernel
theorem d24_2 : decode method_3_code 2 = .ok (.lxor, 1) := by decide +kernel
theorem d24_3 : decode method_3_code 3 = .ok (.lstore 5, 2) := by decide +kernel
theorem d24_5 : decode method_3_code 5 = .ok (.lload 5, 2) := by decide +kernel
theorem d24_7 : decode method_3_code 7 = .ok (.lconst 0, 1) := by decide +kernel
theorem d24_8 : decode method_3_code 8 = .ok (.lcmp, 1) := by decide +kernel
theorem d24_9 : decode method_3_code 9 = .ok (.ifCond .ne 5, 3) := by decide +kernel
theorem d24_14 : decode method_3_code 14 = .ok (.lload 5, 2) := by decide +kernel
theorem d24_16 : decode method_3_code 16 = .ok (.invokestatic 7, 3) := by decide +kernel
theorem d24_19 : decode method_3_code 19 = .ok (.iload 4, 2) := by decide +kernel
theorem d24_21 : decode method_3_code 21 = .ok (.idiv, 1) := by decide +kernel
theorem d24_22 : decode method_3_code 22 = .ok (.iload 4, 2) := by decide +kernel
theorem d24_24 : decode method_3_code 24 = .ok (.imul, 1) := by decide +kernel
theorem d24_25 : decode method_3_code 25 = .ok (.istore 7, 2) := by decide +kernel
theorem d24_27 : decode method_3_code 27 = .ok (.lload_n 2, 1) := by decide +kernel
theorem d24_28 : decode method_3_code 28 = .ok (.iload 7, 2) := by decide +kernel
theorem d24_30 : decode method_3_code 30 = .ok (.lushr, 1) := by decide +kernel
theorem d24_31 : decode method_3_code 31 = .ok (.iload 7, 2) := by decide +kernel
theorem d24_33 : decode method_3_code 33 = .ok (.lshl, 1) := by decide +kernel
theorem d24_34 : decode method_3_code 34 = .ok (.lreturn, 1) := by decide +kernel
theorem d24_12 : decode method_3_code 12 = .ok (.lload_n 2, 1) := by decide +kernel
theorem d24_13 : decode method_3_code 13 = .ok (.lreturn, 1) := by decide +kernel
theorem pn_24 : plainFor yN20 = true := by first | (apply plainFor_of_name; simp [plainName, overriddenIn]; done) | decide +kernel
theorem m_ev (l : Launch) (Z : State) (a0 : Array Value) (hw : HW Z a0) (F : List Ent) {tk D : Int64} {t d sn : Nat} (hD : D.toInt = d) (ht : tk.toInt = t) (hs1 : 1 ≤ sn) (hs8 : sn ≤ 8) (hxN : (D ^^^ tk).toInt = ((d ^^^ t : Nat) : Int)) :
    Met l Z yN20 method_3_code 8 (some .long) { frames := 1, cells := 0, slots := 0, locals := 16 } #[(.long tk), (.long D), (.int (Int32.ofNat sn))] (F) (fun r M' => (∃ v : Int64, r = some (.long v) ∧ v.toInt = ((own_ev sn (own_lvl sn t d) d : Nat) : Int)) ∧ M' = F) := by
  refine Met.of_go pn_24 (Ls := #[.val (.long tk), .second, .val (.long D), .second, .val (.int (Int32.ofNat sn)), .unset, .unset, .unset]) (fun m => rfl) ?_
  intro E C
  refine Go.lloadN C d24_0 rfl rfl ?_
  refine Go.lloadN C d24_1 rfl rfl ?_
  refine Go.lxor C d24_2 rfl ?_
  refine Go.lstore C d24_3 rfl (Ls' := #[.val (.long tk), .second, .val (.long D), .second, .val (.int (Int32.ofNat sn)), .val (.long (D ^^^ tk)), .second, .unset]) rfl ?_
  refine Go.lload C d24_5 rfl rfl ?_
  refine Go.lconst C d24_7 rfl (v := (0 : Int64)) rfl ?_
  refine Go.lcmpif C d24_8 rfl d24_9 (by decide) (q := 14) rfl (q' := 12) rfl (fun (h8_1 : ¬ (D ^^^ tk) = (0 : Int64)) => ?_) (fun (h8_1 : (D ^^^ tk) = (0 : Int64)) => ?_)
  · have hx0 : 0 < d ^^^ t := own_evx hxN h8_1
    refine Go.lload C d24_14 rfl rfl ?_
    refine Go.callS C (y := yN21) (as := [(.long (D ^^^ tk))]) (rest := []) (wd hw 125 rfl) (wd hw 126 rfl) (wd hw 123 rfl) (wd hw 127 rfl) (m_hb l Z a0 hw _ hxN hx0) rfl d24_16 (q := 19) rfl (by decide) rfl (na := 1) (by decide +kernel) rfl (by decide) (W := 0) rfl (by decide) (by decide) (by decide) (k' := 0) (n' := 0) rfl rfl ?_
    rintro _ _ ⟨rfl, hMq⟩
    rw [hMq]
    show Go _ _ _ _ _ _ _ _ _ _ [(.int (Int32.ofNat (Nat.log2 (d ^^^ t))))]
    refine Go.iload C d24_19 rfl rfl ?_
    refine Go.idiv C d24_21 rfl (own_snz hs1 hs8) ?_
    refine Go.iload C d24_22 rfl rfl ?_
    refine Go.imul C d24_24 rfl ?_
    refine Go.istore C d24_25 rfl (Ls' := #[.val (.long tk), .second, .val (.long D), .second, .val (.int (Int32.ofNat sn)), .val (.long (D ^^^ tk)), .second, .val (.int (((Int32.ofNat (Nat.log2 (d ^^^ t))) / (Int32.ofNat sn)) * (Int32.ofNat sn)))]) rfl ?_
    refine Go.lloadN C d24_27 rfl rfl ?_
    refine Go.iload C d24_28 rfl rfl ?_
    refine Go.lushr C d24_30 rfl ?_
    refine Go.iload C d24_31 rfl rfl ?_
    refine Go.lshl C d24_33 rfl ?_
    refine Go.retL C rfl d24_34 (by decide) (by decide) ?_
    exact ⟨⟨_, rfl, own_evB hD ht hs1 hs8 hx0⟩, rfl⟩
  · refine Go.lloadN C d24_12 rfl rfl ?_
    refine Go.retL C rfl d24_13 (by decide) (by decide) ?_
    exact ⟨⟨_, rfl, own_evA hD ht hxN h8_1⟩, rfl⟩
theorem own_invK0 {T : Nat → Addr} {sh : Int32} {dm : Int64} {n : Nat} {zs : Nat → Nat} (hn : n ≤ 63) : InvK T sh dm 0 n zs (fun _ => 0) (fun _ => .null) (fun _ => .null) (List.replicate (Int32.ofNat n).toNatClampNeg .null) (List.replicate (Int32.ofNat n).toNatClampNeg .null) (List.replicate (Int32.ofNat n).toNatClampNeg (.int 0)) [] [] [0, 1, 2] [] := by
  refine ⟨fun _ => 0, fun _ => 0, fun _ _ => .null, fun _ _ => 0, ?_, ?_, ?_, rfl, List.nodup_nil, fun l h => absurd h List.not_mem_nil, fun l h => absurd h List.not_mem_nil, fun l h => absurd h List.not_mem_nil, fun l h => absurd h List.not_mem_nil, List.Pairwise.nil, List.Perm.refl _⟩
  · rw [own_cl (by omega), own_rm_rep]; exact own_rm_ext fun j _ => (if_neg List.not_mem_nil).symm
  · rw [own_cl (by omega), own_rm_rep]; exact own_rm_ext fun j _ => (if_neg List.not_mem_nil).symm
  · rw [own_cl (by omega), own_rm_rep]; exact own_rm_ext fun j _ => rfl
theorem own_sumrange {zs : Nat → Nat} : ∀ (n : Nat) (ks : List Nat), ks.Nodup → (∀ l ∈ ks, l < n) → own_sum zs ks ≤ own_sum zs (List.range n) ∧ ks.length ≤ n
  | 0, ks, _, h => by
    have : ks = [] := List.eq_nil_iff_forall_not_mem.mpr fun x hx => absurd (h x hx) (Nat.not_lt_zero _)
    subst this
    exact ⟨Nat.le_refl _, Nat.le_refl _⟩
  | n + 1, ks, hnd, h => by
    have er : own_sum zs (List.range (n + 1)) = own_sum zs (List.range n) + own_cost zs n := by simp [own_sum, List.range_succ]
    by_cases hn : n ∈ ks
    · have hp := List.perm_cons_erase hn
      have h1 := own_sumrange (zs := zs) n (ks.erase n) (hnd.erase n) (fun l hl => by
        have h2 := hnd.mem_erase_iff.mp hl
        have := h l h2.2
        omega)
      have e1 : own_sum zs ks = own_cost zs n + own_sum zs (ks.erase n) := by
        have := (hp.map (own_cost zs)).sum_nat
        simpa [own_sum] using this
      have e2 := hp.length_eq
      simp at e2
      omega
    · have h1 := own_sumrange (zs := zs) n ks hnd (fun l hl => by
        have := h l hl
        have : l ≠ n := fun e => hn (e ▸ hl)
        omega)
      omega
theorem own_sumle {zs : Nat → Nat} {M : Nat} : ∀ n : Nat, (∀ l, l < n → own_cost zs l ≤ M) → own_sum zs (List.range n) ≤ n * M
  | 0, _ => by simp [own_sum]
  | n + 1, h => by
    have er : own_sum zs (List.range (n + 1)) = own_sum zs (List.range n) + own_cost zs n := by simp [own_sum, List.range_succ]
    have h1 := own_sumle n fun l hl => h l (by omega)
    have h2 := h n (by omega)
    rw [er, Nat.succ_mul]
    omega
theorem own_tab : ∀ (s : Fin 9) (b : Fin 63), 1 ≤ s.1 → (b.1 + 1 + s.1 - 1) / s.1 * (2 ^ s.1 + (2 ^ s.1 + 63) / 64) ≤ 2080 := by decide +kernel
theorem own_geo2 {last : Int64} (hl : 0 < last) {s : Nat} (hs : 1 ≤ s) (hs8 : s ≤ 8) : ∃ (bt : Int32) (dm : Int64) (n : Nat) (zs : Nat → Nat) (b LN : Nat), (64 : Int32) - own_n64 last = bt ∧ ((1 : Int64) <<< ((Int32.ofNat s).toInt64 &&& 63)) - (1 : Int64) = dm ∧ (bt + Int32.ofNat s - (1 : Int32)) / Int32.ofNat s = Int32.ofNat n ∧ n ≤ 63 ∧ Zs (Int32.ofNat s) bt n zs ∧ Geo s dm n b zs ∧ last.toInt = LN ∧ LN < 2 ^ b ∧ 0 < LN ∧ ∀ ks : List Nat, ks.Nodup → (∀ l ∈ ks, l < n) → 2 * ks.length ≤ 126 ∧ own_sum zs ks ≤ 2080 := by
  rw [Int64.lt_iff_toInt_lt, Int64.toInt_zero] at hl
  obtain ⟨N, hN⟩ := Int.eq_ofNat_of_zero_le (Int.le_of_lt hl)
  have hN0 : 0 < N := by omega
  have hN63 := Int64.toInt_lt last
  have k1 := Nat.log2_self_le (n := N) (by omega)
  have k2 := Nat.lt_log2_self (n := N)
  have k3 : Nat.log2 N < 63 := (Nat.log2_lt (by omega)).mpr (by omega)
  have hb := own_n64_spec hN hN0
  generalize Nat.log2 N = b at *
  have e64 : (64 : Int32).toInt = 64 := rfl
  have e1 : (1 : Int32).toInt = 1 := rfl
  have hbt : (64 : Int32) - own_n64 last = Int32.ofNat (b + 1) := by
    rw [hb]
    apply Int32.toInt_inj.mp
    rw [Jvm.Kit.i32_sub (by rw [own_toN (by omega), e64]; omega) (by rw [own_toN (by omega), e64]; omega), own_toN (by omega), own_toN (by omega), e64]; omega
  have hdv : (b + 1 + s - 1) / s = b / s + 1 := by rw [show b + 1 + s - 1 = b + s by omega]; exact Nat.add_div_right b (by omega)
  have hnl : (b + 1 + s - 1) / s ≤ 63 := by
    have h2 := Nat.div_le_self b s
    omega
  have hls : ∀ l, l < (b + 1 + s - 1) / s → l * s < b + 1 := fun l h => by
    have h1 : l ≤ b / s := by omega
    have h2 := Nat.mul_le_mul_right s h1
    have h3 := Nat.div_mul_le_self b s
    omega
  have hz : Zs (Int32.ofNat s) (Int32.ofNat (b + 1)) ((b + 1 + s - 1) / s) (fun l => 2 ^ min s (b + 1 - l * s)) := by
    refine ⟨hnl, own_snz hs hs8, fun l h => ⟨own_sz_spec hs hs8 (by omega) (hls l h), ?_⟩⟩
    exact Nat.pow_le_pow_right (by decide) (show min s (b + 1 - l * s) ≤ 8 by omega)
  refine ⟨_, _, (b + 1 + s - 1) / s, fun l => 2 ^ min s (b + 1 - l * s), b + 1, N, hbt, rfl, ?_, hnl, hz, ⟨hs, hs8, own_dm ⟨s, by omega⟩, by omega, fun t D ht hD => ?_⟩, hN, k2, hN0, fun ks hnd hk => ?_⟩
  · apply Int32.toInt_inj.mp
    have h1 : (Int32.ofNat (b + 1) + Int32.ofNat s).toInt = ((b + 1 + s : Nat) : Int) := by rw [← Int32.ofNat_add, own_toN (by omega)]
    have h2 : (Int32.ofNat (b + 1) + Int32.ofNat s - (1 : Int32)).toInt = ((b + 1 + s - 1 : Nat) : Int) := by
      rw [Jvm.Kit.i32_sub (by rw [h1, e1]; omega) (by rw [h1, e1]; omega), h1, e1]; omega
    rw [Jvm.Kit.i32_div (by rw [h2, own_toN (by omega)]; omega), h2, own_toN (by omega), own_toN (by omega)]
    rw [Int.tdiv_eq_ediv_of_nonneg (by omega)]; simp
  · have hlv : own_lvl s t D ≤ b / s := by
      rw [own_lvl_le hs]
      have hp : b + 1 ≤ (b / s + 1) * s := by
        have := Nat.lt_mul_div_succ b (show 0 < s by omega)
        rw [Nat.mul_comm] at this
        omega
      have hpw : 2 ^ (b + 1) ≤ 2 ^ ((b / s + 1) * s) := Nat.pow_le_pow_right (by decide) hp
      rw [Nat.div_eq_of_lt (by omega), Nat.div_eq_of_lt (by omega)]
    have hlt : own_lvl s t D < (b + 1 + s - 1) / s := by omega
    refine ⟨hlt, ?_⟩
    have hq := hls _ hlt
    generalize own_lvl s t D = l at *
    show D / 2 ^ (l * s) % 2 ^ s < 2 ^ min s (b + 1 - l * s)
    by_cases hm : s ≤ b + 1 - l * s
    · rw [Nat.min_eq_left hm]; exact Nat.mod_lt _ (Nat.two_pow_pos s)
    · rw [Nat.min_eq_right (by omega)]
      refine Nat.lt_of_le_of_lt (Nat.mod_le _ _) ?_
      apply Nat.div_lt_of_lt_mul
      rw [← Nat.pow_add, show l * s + (b + 1 - l * s) = b + 1 by omega]
      exact hD
  · have h1 := own_sumrange (zs := fun l => 2 ^ min s (b + 1 - l * s)) ((b + 1 + s - 1) / s) ks hnd hk
    have h2 := own_sumle (zs := fun l => 2 ^ min s (b + 1 - l * s)) (M := 2 ^ s + (2 ^ s + 63) / 64) ((b + 1 + s - 1) / s) (fun l _ => by
      have hp : 2 ^ min s (b + 1 - l * s) ≤ 2 ^ s := Nat.pow_le_pow_right (by decide) (Nat.min_le_left _ _)
      show 2 ^ min s (b + 1 - l * s) + (2 ^ min s (b + 1 - l * s) + 63) / 64 ≤ _
      have h9 := Nat.div_le_div_right (c := 64) (Nat.add_le_add_right hp 63)
      omega)
    have h3 := own_tab ⟨s, by omega⟩ ⟨b, by omega⟩ hs
    have h3 : (b + 1 + s - 1) / s * (2 ^ s + (2 ^ s + 63) / 64) ≤ 2080 := h3
    exact ⟨by omega, Nat.le_trans h1.1 (Nat.le_trans h2 h3)⟩
def own_mn (u v : Int64) : Int64 := if v < u then v else u
theorem own_mnI {u v : Int64} {a b : Nat} (hu : u.toInt = a) (hv : v.toInt = b) : (own_mn u v).toInt = ((min a b : Nat) : Int) := by
  unfold own_mn
  split
  · rename_i h
    rw [Int64.lt_iff_toInt_lt, hu, hv] at h
    rw [hv]; omega
  · rename_i h
    rw [Int64.lt_iff_toInt_lt, hu, hv] at h
    rw [hu]; omega
theorem own_mxI {u v : Int64} {a b : Nat} (hu : u.toInt = a) (hv : v.toInt = b) : (own_mx u v).toInt = ((max a b : Nat) : Int) := by
  unfold own_mx
  split
  · rename_i h
    rw [Int64.lt_iff_toInt_lt, hu, hv] at h
    rw [hv]; omega
  · rename_i h
    rw [Int64.lt_iff_toInt_lt, hu, hv] at h
    rw [hu]; omega
theorem own_pos63 (x : Int64) : 0 ≤ (x &&& (9223372036854775807 : Int64)).toInt := by
  rw [Jvm.Kit.i64_mask x _ (k := 63) (by decide) (by decide)]
  exact Int.emod_nonneg _ (by decide)
theorem own_tg2 {x last : Int64} {LN : Nat} (hl : last.toInt = LN) (h0 : 0 < LN) : ∃ (v : Int64) (N : Nat), (x &&& (9223372036854775807 : Int64)) - (x &&& (9223372036854775807 : Int64)) / last * last = v ∧ v.toInt = N ∧ N < LN := by
  have hp := own_pos63 x
  have hr := Jvm.Kit.i64_rem_nonneg (x := x &&& (9223372036854775807 : Int64)) (y := last) hp
  have h2 := Int.emod_nonneg (x &&& (9223372036854775807 : Int64)).toInt (show last.toInt ≠ 0 by omega)
  have h3 := Int.emod_lt_of_pos (x &&& (9223372036854775807 : Int64)).toInt (show 0 < last.toInt by omega)
  obtain ⟨N, hN⟩ := Int.eq_ofNat_of_zero_le h2
  exact ⟨_, N, rfl, by rw [hr, hN], by omega⟩
theorem own_fit2 {x last : Int64} {LN : Nat} (hl : last.toInt = LN) (h0 : 0 < LN) : ∃ (v : Int64) (N : Nat), (x &&& (9223372036854775807 : Int64)) - (x &&& (9223372036854775807 : Int64)) / last * last + (1 : Int64) = v ∧ v.toInt = N ∧ 1 ≤ N ∧ N ≤ LN := by
  obtain ⟨v, N, h1, h2, h3⟩ := own_tg2 (x := x) hl h0
  have h4 := Int64.toInt_lt last
  have e1 : (1 : Int64).toInt = 1 := rfl
  refine ⟨_, N + 1, rfl, ?_, by omega, by omega⟩
  rw [h1, Jvm.Kit.i64_add (by rw [h2, e1]; omega) (by rw [h2, e1]; omega), h2, e1]; rfl
theorem own_mx1 {e : Int64} {N : Nat} (he : e.toInt = N) (h1 : 1 ≤ N) : (own_mx e ((0 : Int64) + (1 : Int64))).toInt = N := by
  rw [own_mxI he (b := 1) rfl]
  omega
theorem own_place3 {sn b n N : Nat} {dm e : Int64} {zs : Nat → Nat} (hG : Geo sn dm n b zs) (he : e.toInt = N) (h1 : 1 ≤ N) (hb : N < 2 ^ b) : ∃ lN d, lN < n ∧ d < zs lN ∧ Pc (Int32.ofNat sn) dm 0 (own_mx e ((0 : Int64) + (1 : Int64))) lN d := by
  have h := hG.2.2.2.2 0 N (Nat.two_pow_pos b) hb
  exact ⟨_, _, h.1, h.2, own_Pc2 (own_mx1 he h1) rfl hG.1 hG.2.1 hG.2.2.1⟩
def own_n3 (a b c : Nat) : Nat → Nat
  | 0 => a
  | 1 => b
  | _ => c
theorem own_D3 {va vb vc : Int64} {NA NB NC b : Nat} (ha : va.toInt = NA) (hb : vb.toInt = NB) (hc : vc.toInt = NC) (ha' : NA < 2 ^ b) (hb' : NB < 2 ^ b) (hc' : NC < 2 ^ b) : ∀ i, i < 3 → (own_upd (own_upd (own_upd (fun _ => (0 : Int64)) 0 va) 1 vb) 2 vc i).toInt = own_n3 NA NB NC i ∧ own_n3 NA NB NC i < 2 ^ b := by
  intro i hi
  obtain rfl | rfl | rfl : i = 0 ∨ i = 1 ∨ i = 2 := by omega
  · exact ⟨ha, ha'⟩
  · exact ⟨hb, hb'⟩
  · exact ⟨hc, hc'⟩
section N3
variable {NA NB NC : Nat} {F : List Nat}
theorem own_m3 (h0 : 0 ∈ F) (h1 : 1 ∈ F) (h2 : 2 ∈ F) : ∃ i ∈ F, own_n3 NA NB NC i = min (min NA NB) NC := by
  by_cases q : NA ≤ NB ∧ NA ≤ NC
  · exact ⟨0, h0, by show NA = _; omega⟩
  · by_cases q' : NB ≤ NC
    · exact ⟨1, h1, by show NB = _; omega⟩
    · exact ⟨2, h2, by show NC = _; omega⟩
theorem own_l3 (i : Nat) : min (min NA NB) NC ≤ own_n3 NA NB NC i := by
  match i with
  | 0 => show _ ≤ NA; omega
  | 1 => show _ ≤ NB; omega
  | (k + 2) => show _ ≤ NC; omega
theorem own_m12 (h1 : 1 ∈ F) (h2 : 2 ∈ F) : ∃ i ∈ F, own_n3 NA NB NC i = min NB NC := by
  by_cases q : NB ≤ NC
  · exact ⟨1, h1, by show NB = _; omega⟩
  · exact ⟨2, h2, by show NC = _; omega⟩
theorem own_m02 (h0 : 0 ∈ F) (h2 : 2 ∈ F) : ∃ i ∈ F, own_n3 NA NB NC i = min NA NC := by
  by_cases q : NA ≤ NC
  · exact ⟨0, h0, by show NA = _; omega⟩
  · exact ⟨2, h2, by show NC = _; omega⟩
theorem own_m01 (h0 : 0 ∈ F) (h1 : 1 ∈ F) : ∃ i ∈ F, own_n3 NA NB NC i = min NA NB := by
  by_cases q : NA ≤ NB
  · exact ⟨0, h0, by show NA = _; omega⟩
  · exact ⟨1, h1, by show NB = _; omega⟩
theorem own_l12 {i : Nat} (h : i ≠ 0) : min NB NC ≤ own_n3 NA NB NC i := by
  match i with
  | 0 => exact absurd rfl h
  | 1 => show _ ≤ NB; omega
  | (k + 2) => show _ ≤ NC; omega
theorem own_l02 {i : Nat} (h : i ≠ 1) : min NA NC ≤ own_n3 NA NB NC i := by
  match i with
  | 0 => show _ ≤ NA; omega
  | 1 => exact absurd rfl h
  | (k + 2) => show _ ≤ NC; omega
theorem own_l01 {i : Nat} (hi : i < 3) (h : i ≠ 2) : min NA NB ≤ own_n3 NA NB NC i := by
  match i with
  | 0 => show _ ≤ NA; omega
  | 1 => show _ ≤ NB; omega
  | (k + 2) => omega
end N3
theorem d25_0 : decode jdk_29_method_70_code 0 = .ok (.lload_n 0, 1) := by decide +kernel
theorem d25_1 : decode jdk_29_method_70_code 1 = .ok (.lload_n 2, 1) := by decide +kernel
theorem d25_2 : decode jdk_29_method_70_code 2 = .ok (.lcmp, 1) := by decide +kernel
theorem d25_3 : decode jdk_29_method_70_code 3 = .ok (.ifCond .gt 7, 3) := by decide +kernel
theorem d25_10 : decode jdk_29_method_70_code 10 = .ok (.lload_n 2, 1) := by decide +kernel
theorem d25_11 : decode jdk_29_method_70_code 11 = .ok (.lreturn, 1) := by decide +kernel
theorem d25_6 : decode jdk_29_method_70_code 6 = .ok (.lload_n 0, 1) := by decide +kernel
theorem d25_7 : decode jdk_29_method_70_code 7 = .ok (.goto 4, 3) := by decide +kernel
theorem pn_25 : plainFor yN19 = true := by first | (apply plainFor_of_name; simp [plainName, overriddenIn]; done) | decide +kernel
theorem m_minJ (l : Launch) (Z : State) (a0 : Array Value) (hw : HW Z a0) (F : List Ent) {u v : Int64}  :
    Met l Z yN19 jdk_29_method_70_code 4 (some .long) { frames := 0, cells := 0, slots := 0, locals := 0 } #[(.long u), (.long v)] (F) (fun r M' => r = some (.long (own_mn u v)) ∧ M' = F) := by
  refine Met.of_go pn_25 (Ls := #[.val (.long u), .second, .val (.long v), .second]) (fun m => rfl) ?_
  intro E C
  refine Go.lloadN C d25_0 rfl rfl ?_
  refine Go.lloadN C d25_1 rfl rfl ?_
  refine Go.lcmpif C d25_2 rfl d25_3 (by decide) (q := 10) rfl (q' := 6) rfl (fun (h2_1 : v < u) => ?_) (fun (h2_1 : ¬ v < u) => ?_)
  · refine Go.lloadN C d25_10 rfl rfl ?_
    refine Go.retL C rfl d25_11 (by decide) (by decide) ?_
    exact ⟨by simp [own_mn, h2_1], rfl⟩
  · refine Go.lloadN C d25_6 rfl rfl ?_
    refine Go.goto C d25_7 (by decide) (q := 11) rfl ?_
    refine Go.retL C rfl d25_11 (by decide) (by decide) ?_
    exact ⟨by simp [own_mn, h2_1], rfl⟩
theorem own_prev {sh : Int32} {dm tk : Int64} {n : Nat} {zs : Nat → Nat} {D : Nat → Int64} {Y : List Nat} {p nx : Nat → Value} {vs fs cs : List Value} {LS : List Ent} {B : List Bk} {R : List Nat} {T : Nat → Addr} {i : Nat} (hI : Inv T sh dm tk n zs D p nx vs fs cs LS B R) (hY : (own_fl B).Perm (i :: Y)) : ¬ p i = .null ∧ (p i).isRef = true := by
  obtain ⟨ks, sa, fa, H, W, -, -, -, -, hC⟩ := hI
  have hif : i ∈ own_fl B := hY.symm.subset (List.mem_cons_self ..)
  obtain ⟨⟨lN, d, c⟩, hc, hic⟩ := List.mem_flatMap.mp hif
  obtain ⟨-, -, -, hL, -⟩ := hC.2.2.2.2.1 _ hc
  have hic : i ∈ c := hic
  have hL : Lk T p nx c := hL
  have : ∃ a, p i = .ref a := by
    match c, hL with
    | [a], hL => rw [show i = a by simpa using hic]; exact ⟨_, hL.1⟩
    | [a, b], hL =>
      rcases (show i = a ∨ i = b by simpa using hic) with rfl | rfl
      · exact ⟨_, hL.1⟩
      · exact ⟨_, hL.2.2.1⟩
    | [a, b, c], hL =>
      rcases (show i = a ∨ i = b ∨ i = c by simpa using hic) with rfl | rfl | rfl
      · exact ⟨_, hL.1⟩
      · exact ⟨_, hL.2.2.1⟩
      · exact ⟨_, hL.2.2.2.2.1⟩
  obtain ⟨a, ha⟩ := this
  rw [ha]; exact ⟨by simp, rfl⟩
theorem own_noer {T : Nat → Addr} {sh : Int32} {dm tk : Int64} {n : Nat} {zs : Nat → Nat} {D : Nat → Int64} {p nx : Nat → Value} {vs fs cs : List Value} {LS : List Ent} {B : List Bk} {R ks : List Nat} {i : Nat} (hI : InvK T sh dm tk n zs D p nx vs fs cs LS B R ks) (h : i ∈ (own_fl B).erase i) : False :=
  ((List.nodup_append.mp hI.nd).1.mem_erase_iff.mp h).1 rfl
theorem own_inR {T : Nat → Addr} {sh : Int32} {dm tk : Int64} {n : Nat} {zs : Nat → Nat} {D : Nat → Int64} {p nx : Nat → Value} {vs fs cs : List Value} {LS : List Ent} {B : List Bk} {R ks : List Nat} {i : Nat} (hI : InvK T sh dm tk n zs D p nx vs fs cs LS B R ks) (hi : i ∈ [0, 1, 2]) (h : i ∉ own_fl B) : i ∈ R := by
  obtain ⟨sa, fa, H, W, h1, h2, h3, h4, hC⟩ := hI
  exact (List.mem_append.mp (hC.2.2.2.2.2.2.symm.subset hi)).resolve_left h
theorem own_only02 {NA NB NC i : Nat} (hi : i < 3) (h0 : i ≠ 0) (h1 : i ≠ 1) : NC ≤ own_n3 NA NB NC i := by
  obtain rfl : i = 2 := by omega
  exact Nat.le_refl _
theorem own_only20 {NA NB NC i : Nat} (hi : i < 3) (h2 : i ≠ 2) (h1 : i ≠ 1) : NA ≤ own_n3 NA NB NC i := by
  obtain rfl : i = 0 := by omega
  exact Nat.le_refl _
theorem pn_26 : plainFor x = true := by first | (apply plainFor_of_name; simp [plainName, overriddenIn]; done) | decide +kernel
theorem m_law (l : Launch) (Z : State) (a0 : Array Value) (hw : HW Z a0) (s0 : Int32) (p0 x0 y0 z0 q0 : Int64)  :
    Met l Z x code maxLocals ret room_1 #[(.int s0), (.long p0), (.long x0), (.long y0), (.long z0), (.long q0)] ([]) (fun v _ => v = some (.int 1)) := by
  refine Met.of_go pn_26 (Ls := #[.val (.int s0), .val (.long p0), .second, .val (.long x0), .second, .val (.long y0), .second, .val (.long z0), .second, .val (.long q0), .second, .unset, .unset, .unset, .unset, .unset, .unset, .unset, .unset, .unset, .unset, .unset, .unset, .unset, .unset, .unset, .unset, .unset, .unset, .unset, .unset, .unset, .unset, .unset, .unset, .unset, .unset, .unset, .unset, .unset, .unset]) (fun m => by first | (simp [entryFrame, mkF, argsToLocals, Value.category, maxLocals]; done) | rfl) ?_
  intro E C
  refine Go.iconst C at_0 rfl (v := (1 : Int32)) rfl ?_
  refine Go.iloadN C at_1 rfl rfl ?_
  refine Go.bipush C at_2 rfl (v := (7 : Int32)) (by decide) ?_
  refine Go.iand C at_4 rfl ?_
  refine Go.iadd C at_5 rfl ?_
  obtain ⟨sN, hs1, hs8, hsE⟩ := own_shift s0
  refine Go.castI (w := Int32.ofNat sN) hsE ?_
  refine Go.istore C at_6 rfl (Ls' := #[.val (.int s0), .val (.long p0), .second, .val (.long x0), .second, .val (.long y0), .second, .val (.long z0), .second, .val (.long q0), .second, .val (.int (Int32.ofNat sN)), .unset, .unset, .unset, .unset, .unset, .unset, .unset, .unset, .unset, .unset, .unset, .unset, .unset, .unset, .unset, .unset, .unset, .unset, .unset, .unset, .unset, .unset, .unset, .unset, .unset, .unset, .unset, .unset, .unset]) rfl ?_
  refine Go.iloadN C at_8 rfl rfl ?_
  refine Go.bipush C at_9 rfl (v := (8 : Int32)) (by decide) ?_
  refine Go.iand C at_11 rfl ?_
  refine Go.joinI (q := 20) (Ls' := #[.val (.int s0), .val (.long p0), .second, .val (.long x0), .second, .val (.long y0), .second, .val (.long z0), .second, .val (.long q0), .second, .val (.int (Int32.ofNat sN)), .unset, .unset, .unset, .unset, .unset, .unset, .unset, .unset, .unset, .unset, .unset, .unset, .unset, .unset, .unset, .unset, .unset, .unset, .unset, .unset, .unset, .unset, .unset, .unset, .unset, .unset, .unset, .unset, .unset]) (st' := []) ((if (s0 &&& (8 : Int32)) = (0 : Int32) then (0 : Int32) else 1)) ?_ (fun J20_11 => ?_)
  · obtain ⟨gr, hgrE, hgr⟩ := own_bit ((s0 &&& (8 : Int32)) = (0 : Int32))
    refine Go.castI (w := gr) hgrE ?_
    refine Go.istore C at_20 rfl (Ls' := #[.val (.int s0), .val (.long p0), .second, .val (.long x0), .second, .val (.long y0), .second, .val (.long z0), .second, .val (.long q0), .second, .val (.int (Int32.ofNat sN)), .val (.int gr), .unset, .unset, .unset, .unset, .unset, .unset, .unset, .unset, .unset, .unset, .unset, .unset, .unset, .unset, .unset, .unset, .unset, .unset, .unset, .unset, .unset, .unset, .unset, .unset, .unset, .unset, .unset, .unset]) rfl ?_
    refine Go.iloadN C at_22 rfl rfl ?_
    refine Go.bipush C at_23 rfl (v := (16 : Int32)) (by decide) ?_
    refine Go.iand C at_25 rfl ?_
    refine Go.joinI (q := 34) (Ls' := #[.val (.int s0), .val (.long p0), .second, .val (.long x0), .second, .val (.long y0), .second, .val (.long z0), .second, .val (.long q0), .second, .val (.int (Int32.ofNat sN)), .val (.int gr), .unset, .unset, .unset, .unset, .unset, .unset, .unset, .unset, .unset, .unset, .unset, .unset, .unset, .unset, .unset, .unset, .unset, .unset, .unset, .unset, .unset, .unset, .unset, .unset, .unset, .unset, .unset, .unset]) (st' := []) ((if (s0 &&& (16 : Int32)) = (0 : Int32) then (0 : Int32) else 1)) ?_ (fun J34_18 => ?_)
    · obtain ⟨gp, hgpE, hgp⟩ := own_bit ((s0 &&& (16 : Int32)) = (0 : Int32))
      refine Go.castI (w := gp) hgpE ?_
      refine Go.istore C at_34 rfl (Ls' := #[.val (.int s0), .val (.long p0), .second, .val (.long x0), .second, .val (.long y0), .second, .val (.long z0), .second, .val (.long q0), .second, .val (.int (Int32.ofNat sN)), .val (.int gr), .val (.int gp), .unset, .unset, .unset, .unset, .unset, .unset, .unset, .unset, .unset, .unset, .unset, .unset, .unset, .unset, .unset, .unset, .unset, .unset, .unset, .unset, .unset, .unset, .unset, .unset, .unset, .unset, .unset]) rfl ?_
      refine Go.lconst C at_36 rfl (v := (1 : Int64)) rfl ?_
      refine Go.lloadN C at_37 rfl rfl ?_
      refine Go.ldc2J C (v := (9223372036854775807 : Int64)) (wd hw 0 rfl) at_38 rfl ?_
      refine Go.land C at_41 rfl ?_
      refine Go.callS C (y := yN1) (as := [(.long (1 : Int64)), (.long (p0 &&& (9223372036854775807 : Int64)))]) (rest := []) (wd hw 1 rfl) (wd hw 2 rfl) (wd hw 3 rfl) (wd hw 4 rfl) (m_maxJ l Z a0 hw _) rfl at_42 (q := 45) rfl (by decide) rfl (na := 2) (by decide +kernel) rfl (by decide) (W := 0) rfl (by decide) (by decide) (by decide) (k' := 0) (n' := 0) rfl rfl ?_
      rintro _ _ ⟨rfl, rfl⟩
      show Go _ _ _ _ _ _ _ _ _ _ [(.long (own_mx (1 : Int64) (p0 &&& (9223372036854775807 : Int64))))]
      obtain ⟨last, hlE, hl1⟩ : ∃ x : Int64, own_mx (1 : Int64) (p0 &&& (9223372036854775807 : Int64)) = x ∧ 0 < x := ⟨_, rfl, own_last _⟩
      refine Go.castJ (w := last) hlE ?_
      have hlz : last ≠ 0 := fun z => by rw [z] at hl1; exact absurd hl1 (by decide)
      obtain ⟨bt, dm, n, zs, b, LN, hbt, hdm, hnl, hn63, hZ, hG, hLN, hLb, hL0, hsum⟩ := own_geo2 hl1 hs1 hs8
      refine Go.lstore C at_45 rfl (Ls' := #[.val (.int s0), .val (.long p0), .second, .val (.long x0), .second, .val (.long y0), .second, .val (.long z0), .second, .val (.long q0), .second, .val (.int (Int32.ofNat sN)), .val (.int gr), .val (.int gp), .val (.long last), .second, .unset, .unset, .unset, .unset, .unset, .unset, .unset, .unset, .unset, .unset, .unset, .unset, .unset, .unset, .unset, .unset, .unset, .unset, .unset, .unset, .unset, .unset, .unset, .unset, .unset]) rfl ?_
      refine Go.lloadN C at_47 rfl rfl ?_
      refine Go.ldc2J C (v := (9223372036854775807 : Int64)) (wd hw 0 rfl) at_48 rfl ?_
      refine Go.land C at_51 rfl ?_
      refine Go.lload C at_52 rfl rfl ?_
      refine Go.lrem C at_54 rfl hlz ?_
      refine Go.lconst C at_55 rfl (v := (1 : Int64)) rfl ?_
      refine Go.ladd C at_56 rfl ?_
      obtain ⟨da, NA, hdaE, hda, hda1, hda2⟩ := own_fit2 (x := x0) hLN hL0
      have hdab : NA < 2 ^ b := by omega
      refine Go.castJ (w := da) hdaE ?_
      refine Go.lstore C at_57 rfl (Ls' := #[.val (.int s0), .val (.long p0), .second, .val (.long x0), .second, .val (.long y0), .second, .val (.long z0), .second, .val (.long q0), .second, .val (.int (Int32.ofNat sN)), .val (.int gr), .val (.int gp), .val (.long last), .second, .val (.long da), .second, .unset, .unset, .unset, .unset, .unset, .unset, .unset, .unset, .unset, .unset, .unset, .unset, .unset, .unset, .unset, .unset, .unset, .unset, .unset, .unset, .unset, .unset, .unset]) rfl ?_
      refine Go.lload C at_59 rfl rfl ?_
      refine Go.ldc2J C (v := (9223372036854775807 : Int64)) (wd hw 0 rfl) at_61 rfl ?_
      refine Go.land C at_64 rfl ?_
      refine Go.lload C at_65 rfl rfl ?_
      refine Go.lrem C at_67 rfl hlz ?_
      refine Go.lconst C at_68 rfl (v := (1 : Int64)) rfl ?_
      refine Go.ladd C at_69 rfl ?_
      obtain ⟨db, NB, hdbE, hdb, hdb1, hdb2⟩ := own_fit2 (x := y0) hLN hL0
      have hdbb : NB < 2 ^ b := by omega
      refine Go.castJ (w := db) hdbE ?_
      refine Go.lstore C at_70 rfl (Ls' := #[.val (.int s0), .val (.long p0), .second, .val (.long x0), .second, .val (.long y0), .second, .val (.long z0), .second, .val (.long q0), .second, .val (.int (Int32.ofNat sN)), .val (.int gr), .val (.int gp), .val (.long last), .second, .val (.long da), .second, .val (.long db), .second, .unset, .unset, .unset, .unset, .unset, .unset, .unset, .unset, .unset, .unset, .unset, .unset, .unset, .unset, .unset, .unset, .unset, .unset, .unset, .unset, .unset]) rfl ?_
      refine Go.lload C at_72 rfl rfl ?_
      refine Go.ldc2J C (v := (9223372036854775807 : Int64)) (wd hw 0 rfl) at_74 rfl ?_
      refine Go.land C at_77 rfl ?_
      refine Go.lload C at_78 rfl rfl ?_
      refine Go.lrem C at_80 rfl hlz ?_
      refine Go.lconst C at_81 rfl (v := (1 : Int64)) rfl ?_
      refine Go.ladd C at_82 rfl ?_
      obtain ⟨dc, NC, hdcE, hdc, hdc1, hdc2⟩ := own_fit2 (x := z0) hLN hL0
      have hdcb : NC < 2 ^ b := by omega
      refine Go.castJ (w := dc) hdcE ?_
      refine Go.lstore C at_83 rfl (Ls' := #[.val (.int s0), .val (.long p0), .second, .val (.long x0), .second, .val (.long y0), .second, .val (.long z0), .second, .val (.long q0), .second, .val (.int (Int32.ofNat sN)), .val (.int gr), .val (.int gp), .val (.long last), .second, .val (.long da), .second, .val (.long db), .second, .val (.long dc), .second, .unset, .unset, .unset, .unset, .unset, .unset, .unset, .unset, .unset, .unset, .unset, .unset, .unset, .unset, .unset, .unset, .unset, .unset, .unset]) rfl ?_
      refine Go.lload C at_85 rfl rfl ?_
      refine Go.ldc2J C (v := (9223372036854775807 : Int64)) (wd hw 0 rfl) at_87 rfl ?_
      refine Go.land C at_90 rfl ?_
      refine Go.lload C at_91 rfl rfl ?_
      refine Go.lrem C at_93 rfl hlz ?_
      obtain ⟨tg, NG, htgE, htg, htgl⟩ := own_tg2 (x := q0) hLN hL0
      have hgb : NG < 2 ^ b := by omega
      refine Go.castJ (w := tg) htgE ?_
      refine Go.lstore C at_94 rfl (Ls' := #[.val (.int s0), .val (.long p0), .second, .val (.long x0), .second, .val (.long y0), .second, .val (.long z0), .second, .val (.long q0), .second, .val (.int (Int32.ofNat sN)), .val (.int gr), .val (.int gp), .val (.long last), .second, .val (.long da), .second, .val (.long db), .second, .val (.long dc), .second, .val (.long tg), .second, .unset, .unset, .unset, .unset, .unset, .unset, .unset, .unset, .unset, .unset, .unset, .unset, .unset, .unset, .unset, .unset, .unset]) rfl ?_
      refine Go.new C (wd hw 5 rfl) (wd hw 6 rfl) (wd hw 7 rfl) [(("com/example/charkha/charkha/Timeout", "timer", "Lcom/example/charkha/charkha/WheelTimer;"), .null), (("com/example/charkha/charkha/Timeout", "task", "Ljava/lang/Runnable;"), .null), (("com/example/charkha/charkha/Timeout", "deadline", "J"), (.long (0 : Int64))), (("com/example/charkha/charkha/Timeout", "next", "Lcom/example/charkha/charkha/Timeout;"), .null), (("com/example/charkha/charkha/Timeout", "prev", "Lcom/example/charkha/charkha/Timeout;"), .null), (("com/example/charkha/charkha/Timeout", "state", "I"), (.int (0 : Int32)))] ⟨⟨Or.inr (wd hw 15 rfl), (.object "com/example/charkha/charkha/WheelTimer"), by decide, rfl⟩, ⟨Or.inr (wd hw 17 rfl), (.object "java/lang/Runnable"), by decide, rfl⟩, ⟨Or.inl (wd hw 80 rfl), .long, by decide, rfl⟩, ⟨Or.inl (wd hw 100 rfl), (.object "com/example/charkha/charkha/Timeout"), by decide, rfl⟩, ⟨Or.inl (wd hw 102 rfl), (.object "com/example/charkha/charkha/Timeout"), by decide, rfl⟩, ⟨Or.inl (wd hw 134 rfl), .int, by decide, rfl⟩, trivial⟩ (by decide) at_96 (q := 99) rfl (by decide) (by decide) (k' := 1) (n' := 6) rfl rfl (fun t0 => ?_)
      refine Go.dup C at_99 rfl rfl ?_
      refine Go.aconstNull C at_100 rfl ?_
      refine Go.aconstNull C at_101 rfl ?_
      refine Go.callI C (y := yN2) (a := t0) (as := [.null, .null]) (rest := [(.ref t0)]) (wd hw 8 rfl) (wd hw 9 rfl) (wd hw 7 rfl) (wd hw 10 rfl) (m_tinit l Z a0 hw _) rfl rfl at_102 (q := 105) rfl (by decide) rfl (na := 2) (by decide +kernel) rfl (by decide) (W := 1) rfl (by decide) (by decide) (by decide) (k' := 1) (n' := 6) rfl rfl ?_
      rintro _ _ ⟨rfl, rfl⟩
      show Go _ _ _ _ _ _ _ _ _ _ [(.ref t0)]
      refine Go.astore C at_105 rfl rfl (Ls' := #[.val (.int s0), .val (.long p0), .second, .val (.long x0), .second, .val (.long y0), .second, .val (.long z0), .second, .val (.long q0), .second, .val (.int (Int32.ofNat sN)), .val (.int gr), .val (.int gp), .val (.long last), .second, .val (.long da), .second, .val (.long db), .second, .val (.long dc), .second, .val (.long tg), .second, .val (.ref t0), .unset, .unset, .unset, .unset, .unset, .unset, .unset, .unset, .unset, .unset, .unset, .unset, .unset, .unset, .unset, .unset]) rfl ?_
      refine Go.new C (wd hw 5 rfl) (wd hw 6 rfl) (wd hw 7 rfl) [(("com/example/charkha/charkha/Timeout", "timer", "Lcom/example/charkha/charkha/WheelTimer;"), .null), (("com/example/charkha/charkha/Timeout", "task", "Ljava/lang/Runnable;"), .null), (("com/example/charkha/charkha/Timeout", "deadline", "J"), (.long (0 : Int64))), (("com/example/charkha/charkha/Timeout", "next", "Lcom/example/charkha/charkha/Timeout;"), .null), (("com/example/charkha/charkha/Timeout", "prev", "Lcom/example/charkha/charkha/Timeout;"), .null), (("com/example/charkha/charkha/Timeout", "state", "I"), (.int (0 : Int32)))] ⟨⟨Or.inr (wd hw 15 rfl), (.object "com/example/charkha/charkha/WheelTimer"), by decide, rfl⟩, ⟨Or.inr (wd hw 17 rfl), (.object "java/lang/Runnable"), by decide, rfl⟩, ⟨Or.inl (wd hw 80 rfl), .long, by decide, rfl⟩, ⟨Or.inl (wd hw 100 rfl), (.object "com/example/charkha/charkha/Timeout"), by decide, rfl⟩, ⟨Or.inl (wd hw 102 rfl), (.object "com/example/charkha/charkha/Timeout"), by decide, rfl⟩, ⟨Or.inl (wd hw 134 rfl), .int, by decide, rfl⟩, trivial⟩ (by decide) at_107 (q := 110) rfl (by decide) (by decide) (k' := 2) (n' := 12) rfl rfl (fun t1 => ?_)
      refine Go.dup C at_110 rfl rfl ?_
      refine Go.aconstNull C at_111 rfl ?_
      refine Go.aconstNull C at_112 rfl ?_
      refine Go.callI C (y := yN2) (a := t1) (as := [.null, .null]) (rest := [(.ref t1)]) (wd hw 8 rfl) (wd hw 9 rfl) (wd hw 7 rfl) (wd hw 10 rfl) (m_tinit l Z a0 hw _) rfl rfl at_113 (q := 116) rfl (by decide) rfl (na := 2) (by decide +kernel) rfl (by decide) (W := 1) rfl (by decide) (by decide) (by decide) (k' := 2) (n' := 12) rfl rfl ?_
      rintro _ _ ⟨rfl, rfl⟩
      show Go _ _ _ _ _ _ _ _ _ _ [(.ref t1)]
      refine Go.astore C at_116 rfl rfl (Ls' := #[.val (.int s0), .val (.long p0), .second, .val (.long x0), .second, .val (.long y0), .second, .val (.long z0), .second, .val (.long q0), .second, .val (.int (Int32.ofNat sN)), .val (.int gr), .val (.int gp), .val (.long last), .second, .val (.long da), .second, .val (.long db), .second, .val (.long dc), .second, .val (.long tg), .second, .val (.ref t0), .val (.ref t1), .unset, .unset, .unset, .unset, .unset, .unset, .unset, .unset, .unset, .unset, .unset, .unset, .unset, .unset, .unset]) rfl ?_
      refine Go.new C (wd hw 5 rfl) (wd hw 6 rfl) (wd hw 7 rfl) [(("com/example/charkha/charkha/Timeout", "timer", "Lcom/example/charkha/charkha/WheelTimer;"), .null), (("com/example/charkha/charkha/Timeout", "task", "Ljava/lang/Runnable;"), .null), (("com/example/charkha/charkha/Timeout", "deadline", "J"), (.long (0 : Int64))), (("com/example/charkha/charkha/Timeout", "next", "Lcom/example/charkha/charkha/Timeout;"), .null), (("com/example/charkha/charkha/Timeout", "prev", "Lcom/example/charkha/charkha/Timeout;"), .null), (("com/example/charkha/charkha/Timeout", "state", "I"), (.int (0 : Int32)))] ⟨⟨Or.inr (wd hw 15 rfl), (.object "com/example/charkha/charkha/WheelTimer"), by decide, rfl⟩, ⟨Or.inr (wd hw 17 rfl), (.object "java/lang/Runnable"), by decide, rfl⟩, ⟨Or.inl (wd hw 80 rfl), .long, by decide, rfl⟩, ⟨Or.inl (wd hw 100 rfl), (.object "com/example/charkha/charkha/Timeout"), by decide, rfl⟩, ⟨Or.inl (wd hw 102 rfl), (.object "com/example/charkha/charkha/Timeout"), by decide, rfl⟩, ⟨Or.inl (wd hw 134 rfl), .int, by decide, rfl⟩, trivial⟩ (by decide) at_118 (q := 121) rfl (by decide) (by decide) (k' := 3) (n' := 18) rfl rfl (fun t2 => ?_)
      refine Go.dup C at_121 rfl rfl ?_
      refine Go.aconstNull C at_122 rfl ?_
      refine Go.aconstNull C at_123 rfl ?_
      refine Go.callI C (y := yN2) (a := t2) (as := [.null, .null]) (rest := [(.ref t2)]) (wd hw 8 rfl) (wd hw 9 rfl) (wd hw 7 rfl) (wd hw 10 rfl) (m_tinit l Z a0 hw _) rfl rfl at_124 (q := 127) rfl (by decide) rfl (na := 2) (by decide +kernel) rfl (by decide) (W := 1) rfl (by decide) (by decide) (by decide) (k' := 3) (n' := 18) rfl rfl ?_
      rintro _ _ ⟨rfl, rfl⟩
      show Go _ _ _ _ _ _ _ _ _ _ [(.ref t2)]
      refine Go.astore C at_127 rfl rfl (Ls' := #[.val (.int s0), .val (.long p0), .second, .val (.long x0), .second, .val (.long y0), .second, .val (.long z0), .second, .val (.long q0), .second, .val (.int (Int32.ofNat sN)), .val (.int gr), .val (.int gp), .val (.long last), .second, .val (.long da), .second, .val (.long db), .second, .val (.long dc), .second, .val (.long tg), .second, .val (.ref t0), .val (.ref t1), .val (.ref t2), .unset, .unset, .unset, .unset, .unset, .unset, .unset, .unset, .unset, .unset, .unset, .unset, .unset, .unset]) rfl ?_
      refine Go.new C (wd hw 18 rfl) (wd hw 19 rfl) (wd hw 20 rfl) [(("com/example/charkha/charkha/Wheels", "removed", "[Lcom/example/charkha/charkha/Timeout;"), .null), (("com/example/charkha/charkha/Wheels", "shift", "I"), (.int (0 : Int32))), (("com/example/charkha/charkha/Wheels", "digitMask", "J"), (.long (0 : Int64))), (("com/example/charkha/charkha/Wheels", "bits", "I"), (.int (0 : Int32))), (("com/example/charkha/charkha/Wheels", "slots", "[[Lcom/example/charkha/charkha/Timeout;"), .null), (("com/example/charkha/charkha/Wheels", "filed", "[[J"), .null), (("com/example/charkha/charkha/Wheels", "filedSlots", "[I"), .null), (("com/example/charkha/charkha/Wheels", "tick", "J"), (.long (0 : Int64))), (("com/example/charkha/charkha/Wheels", "removedCount", "I"), (.int (0 : Int32)))] ⟨⟨Or.inr (wd hw 28 rfl), (.array (.object "com/example/charkha/charkha/Timeout")), by decide, rfl⟩, ⟨Or.inr (wd hw 30 rfl), .int, by decide, rfl⟩, ⟨Or.inr (wd hw 32 rfl), .long, by decide, rfl⟩, ⟨Or.inr (wd hw 43 rfl), .int, by decide, rfl⟩, ⟨Or.inr (wd hw 47 rfl), (.array (.array (.object "com/example/charkha/charkha/Timeout"))), by decide, rfl⟩, ⟨Or.inr (wd hw 51 rfl), (.array (.array .long)), by decide, rfl⟩, ⟨Or.inr (wd hw 54 rfl), (.array .int), by decide, rfl⟩, ⟨Or.inl (wd hw 77 rfl), .long, by decide, rfl⟩, ⟨Or.inl (wd hw 65 rfl), .int, by decide, rfl⟩, trivial⟩ (by decide) at_129 (q := 132) rfl (by decide) (by decide) (k' := 4) (n' := 27) rfl rfl (fun w => ?_)
      refine Go.dup C at_132 rfl rfl ?_
      refine Go.iload C at_133 rfl rfl ?_
      refine Go.lload C at_135 rfl rfl ?_
      refine Go.callI C (y := yN4) (a := w) (as := [(.int (Int32.ofNat sN)), (.long last)]) (rest := [(.ref w)]) (wd hw 21 rfl) (wd hw 22 rfl) (wd hw 20 rfl) (wd hw 23 rfl) (m_winit l Z a0 hw _ hZ.2.1 hbt hdm hnl (own_nn (by omega)) (by rw [own_cl (by omega)]; exact hn63)) rfl rfl at_137 (q := 140) rfl (by decide) rfl (na := 2) (by decide +kernel) rfl (by decide) (W := 1) rfl (by decide) (by decide) (by decide) (k' := 8) (n' := 280) rfl rfl ?_
      rintro _ _ ⟨rfl, cA, fA, sA, rA, rfl⟩
      show Go _ _ _ _ _ _ _ _ _ _ [(.ref w)]
      refine Go.astore C at_140 rfl rfl (Ls' := #[.val (.int s0), .val (.long p0), .second, .val (.long x0), .second, .val (.long y0), .second, .val (.long z0), .second, .val (.long q0), .second, .val (.int (Int32.ofNat sN)), .val (.int gr), .val (.int gp), .val (.long last), .second, .val (.long da), .second, .val (.long db), .second, .val (.long dc), .second, .val (.long tg), .second, .val (.ref t0), .val (.ref t1), .val (.ref t2), .val (.ref w), .unset, .unset, .unset, .unset, .unset, .unset, .unset, .unset, .unset, .unset, .unset, .unset, .unset]) rfl ?_
      refine Go.pick (M' := (tE t0 .null .null 0 .null .null 0 :: tE t1 .null .null 0 .null .null 0 :: tE t2 .null .null 0 .null .null 0 :: wE w rA (Int32.ofNat sN) dm bt sA fA cA 0 0 :: aS sA (List.replicate (Int32.ofNat n).toNatClampNeg .null) :: aF fA (List.replicate (Int32.ofNat n).toNatClampNeg .null) :: aI cA (List.replicate (Int32.ofNat n).toNatClampNeg (.int 0)) :: aT rA (List.replicate (64 : Int32).toNatClampNeg .null) :: [])) 8 [7, 6, 5, 4, 2, 1, 0, 3] (by decide) (by decide) rfl ?_
      have hI0 : InvK (own_t3 t0 t1 t2) (Int32.ofNat sN) dm 0 n zs (fun _ => 0) (fun _ => .null) (fun _ => .null) _ _ _ [] [] [0, 1, 2] [] := own_invK0 hn63
      refine Go.aload C at_142 rfl rfl rfl ?_
      refine Go.callV C (y := yN7) (z := yN7) (a := w) (as := []) (rest := []) (wd hw 55 rfl) (wd hw 56 rfl) (nf_sel (z := yN7) (wd hw 58 rfl)) (wd hw 58 rfl) (wd hw 57 rfl) (wd hw 59 rfl) (wd hw 20 rfl) (fun _ r => r.exa 3 rfl) (m_neE l Z a0 hw (D := (fun _ => (0 : Int64))) (s := (fun _ => (0 : Int32))) (p := (fun _ => .null)) (nx := (fun _ => .null)) hn63 (InvK.inv hI0)) rfl at_144 (q := 147) rfl (by decide) rfl (na := 0) (by decide +kernel) rfl (by decide) (W := 0) rfl (by decide) (by decide) (by decide) (k' := 8) (n' := 280) rfl rfl ?_
      rintro _ _ ⟨rfl, rfl⟩
      show Go _ _ _ _ _ _ _ _ _ _ [(.long (9223372036854775807 : Int64))]
      refine Go.ldc2J C (v := (9223372036854775807 : Int64)) (wd hw 0 rfl) at_147 rfl ?_
      refine Go.lcmp C at_150 rfl ?_
      refine Go.ifNo C at_151 (q := 154) rfl (XT.ll_ne_f (by decide)) ?_
      refine Go.iconst C at_154 rfl (v := (1 : Int32)) rfl ?_
      refine Go.goto C at_155 (by decide) (q := 159) rfl ?_
      refine Go.istore C at_159 rfl (Ls' := #[.val (.int s0), .val (.long p0), .second, .val (.long x0), .second, .val (.long y0), .second, .val (.long z0), .second, .val (.long q0), .second, .val (.int (Int32.ofNat sN)), .val (.int gr), .val (.int gp), .val (.long last), .second, .val (.long da), .second, .val (.long db), .second, .val (.long dc), .second, .val (.long tg), .second, .val (.ref t0), .val (.ref t1), .val (.ref t2), .val (.ref w), .val (.int (1 : Int32)), .unset, .unset, .unset, .unset, .unset, .unset, .unset, .unset, .unset, .unset, .unset, .unset]) rfl ?_
      refine Go.aload C at_161 rfl rfl rfl ?_
      refine Go.aload C at_163 rfl rfl rfl ?_
      refine Go.lload C at_165 rfl rfl ?_
      obtain ⟨lN1, g1d, hl1n, hd1n, hP1⟩ := own_place3 hG hda hda1 hdab
      refine Go.callV C (y := yN10) (z := yN10) (a := w) (as := [(.ref t0), (.long da)]) (rest := []) (wd hw 71 rfl) (wd hw 72 rfl) (nf_sel (z := yN10) (wd hw 74 rfl)) (wd hw 74 rfl) (wd hw 73 rfl) (wd hw 75 rfl) (wd hw 20 rfl) (fun _ r => r.exa 3 rfl) (m_add0 l Z a0 hw (D := (fun _ => (0 : Int64))) (s := (fun _ => (0 : Int32))) (p := (fun _ => .null)) (nx := (fun _ => .null)) hZ hI0 (by decide) hl1n hd1n hP1) rfl at_167 (q := 170) rfl (by decide) rfl (na := 2) (by decide +kernel) rfl (by decide) (W := 0) rfl (by decide) (by decide) (by decide) (k' := 10) (n' := 540) rfl rfl ?_
      rintro _ _ ⟨rfl, p1, nx1, vs1, fs1, cs1, LS1, B1, rfl, hI1, hY1, hF1⟩
      show Go _ _ _ _ _ _ _ _ _ _ []
      refine Go.aload C at_170 rfl rfl rfl ?_
      refine Go.aload C at_172 rfl rfl rfl ?_
      refine Go.lload C at_174 rfl rfl ?_
      obtain ⟨lN2, g2d, hl2n, hd2n, hP2⟩ := own_place3 hG hdb hdb1 hdbb
      refine Go.callV C (y := yN10) (z := yN10) (a := w) (as := [(.ref t1), (.long db)]) (rest := []) (wd hw 71 rfl) (wd hw 72 rfl) (nf_sel (z := yN10) (wd hw 74 rfl)) (wd hw 74 rfl) (wd hw 73 rfl) (wd hw 75 rfl) (wd hw 20 rfl) (fun _ r => r.exa 3 rfl) (m_add1 l Z a0 hw (D := (own_upd (fun _ => (0 : Int64)) 0 (own_mx da ((0 : Int64) + (1 : Int64))))) (s := (fun _ => (0 : Int32))) (p := p1) (nx := nx1) hZ hI1 (by decide) hl2n hd2n hP2) rfl at_176 (q := 179) rfl (by decide) rfl (na := 2) (by decide +kernel) rfl (by decide) (W := 0) rfl (by decide) (by decide) (by decide) (k' := 12) (n' := 800) rfl rfl ?_
      rintro _ _ ⟨rfl, p2, nx2, vs2, fs2, cs2, LS2, B2, rfl, hI2, hY2, hF2⟩
      show Go _ _ _ _ _ _ _ _ _ _ []
      refine Go.aload C at_179 rfl rfl rfl ?_
      refine Go.aload C at_181 rfl rfl rfl ?_
      refine Go.lload C at_183 rfl rfl ?_
      obtain ⟨lN3, g3d, hl3n, hd3n, hP3⟩ := own_place3 hG hdc hdc1 hdcb
      refine Go.callV C (y := yN10) (z := yN10) (a := w) (as := [(.ref t2), (.long dc)]) (rest := []) (wd hw 71 rfl) (wd hw 72 rfl) (nf_sel (z := yN10) (wd hw 74 rfl)) (wd hw 74 rfl) (wd hw 73 rfl) (wd hw 75 rfl) (wd hw 20 rfl) (fun _ r => r.exa 3 rfl) (m_add2 l Z a0 hw (D := (own_upd (own_upd (fun _ => (0 : Int64)) 0 (own_mx da ((0 : Int64) + (1 : Int64)))) 1 (own_mx db ((0 : Int64) + (1 : Int64))))) (s := (fun _ => (0 : Int32))) (p := p2) (nx := nx2) hZ hI2 (by decide) hl3n hd3n hP3) rfl at_185 (q := 188) rfl (by decide) rfl (na := 2) (by decide +kernel) rfl (by decide) (W := 0) rfl (by decide) (by decide) (by decide) (k' := 14) (n' := 1060) rfl rfl ?_
      rintro _ _ ⟨rfl, p3, nx3, vs3, fs3, cs3, LS3, B3, rfl, hI3, hY3, hF3⟩
      show Go _ _ _ _ _ _ _ _ _ _ []
      have hY := own_y3 rfl hY1 hY2 hY3
      have hDD := own_D3 (own_mx1 hda hda1) (own_mx1 hdb hdb1) (own_mx1 hdc hdc1) hdab hdbb hdcb
      have hRf : ∀ j ∈ (([0, 1, 2].erase 0).erase 1).erase 2, p3 j = .null ∧ nx3 j = .null := fun j hj => absurd (show j ∈ ([] : List Nat) from hj) List.not_mem_nil
      refine Go.know (P := ∀ a b, a < 3 → b < 3 → a ≠ b → own_t3 t0 t1 t2 a ≠ own_t3 t0 t1 t2 b) (fun _ r => own_T3 (r.ne (i := 0) (j := 1) rfl rfl (by decide)) (r.ne (i := 0) (j := 2) rfl rfl (by decide)) (r.ne (i := 1) (j := 2) rfl rfl (by decide))) (fun hT => ?_)
      rcases hgr with rfl | rfl <;> rcases hgp with rfl | rfl
      · refine Go.iload C at_188 rfl rfl ?_
        refine Go.ifYes C at_190 (by decide) (q := 206) rfl (XT.i0_eq_t (by decide)) ?_
        refine Go.iload C at_206 rfl rfl ?_
        refine Go.ifYes C at_208 (by decide) (q := 219) rfl (XT.i0_eq_t (by decide)) ?_
        refine Go.aload C at_219 rfl rfl rfl ?_
        refine Go.callV C (y := yN7) (z := yN7) (a := w) (as := []) (rest := []) (wd hw 55 rfl) (wd hw 56 rfl) (nf_sel (z := yN7) (wd hw 58 rfl)) (wd hw 58 rfl) (wd hw 57 rfl) (wd hw 59 rfl) (wd hw 20 rfl) (fun _ r => r.exa 3 rfl) (m_neN l Z a0 hw (D := (own_upd (own_upd (own_upd (fun _ => (0 : Int64)) 0 (own_mx da ((0 : Int64) + (1 : Int64)))) 1 (own_mx db ((0 : Int64) + (1 : Int64)))) 2 (own_mx dc ((0 : Int64) + (1 : Int64))))) (s := (fun _ => (0 : Int32))) (p := p3) (nx := nx3) (t := 0) (m := (min (min NA NB) NC)) hZ hG hDD hI3 rfl (fun _ _ => Nat.zero_le _) (own_m3 (hY.symm.subset (by decide)) (hY.symm.subset (by decide)) (hY.symm.subset (by decide))) (fun i _ => own_l3 i)) rfl at_221 (q := 224) rfl (by decide) rfl (na := 0) (by decide +kernel) rfl (by decide) (W := 0) rfl (by decide) (by decide) (by decide) (k' := 14) (n' := 1060) rfl rfl ?_
        rintro _ Mz ⟨nt, rfl, hnt⟩
        show Go _ _ _ _ _ _ _ _ _ _ [(.long nt)]
        refine Go.lstore C at_224 rfl (Ls' := #[.val (.int s0), .val (.long p0), .second, .val (.long x0), .second, .val (.long y0), .second, .val (.long z0), .second, .val (.long q0), .second, .val (.int (Int32.ofNat sN)), .val (.int (0 : Int32)), .val (.int (0 : Int32)), .val (.long last), .second, .val (.long da), .second, .val (.long db), .second, .val (.long dc), .second, .val (.long tg), .second, .val (.ref t0), .val (.ref t1), .val (.ref t2), .val (.ref w), .val (.int (1 : Int32)), .val (.long nt), .second, .unset, .unset, .unset, .unset, .unset, .unset, .unset, .unset, .unset, .unset]) rfl ?_
        refine Go.iload C at_226 rfl rfl ?_
        refine Go.ifYes C at_228 (by decide) (q := 252) rfl (XT.i0_eq_t (by decide)) ?_
        refine Go.lload C at_252 rfl rfl ?_
        refine Go.lload C at_254 rfl rfl ?_
        refine Go.callS C (y := yN19) (as := [(.long da), (.long db)]) (rest := []) (wd hw 118 rfl) (wd hw 119 rfl) (wd hw 3 rfl) (wd hw 120 rfl) (m_minJ l Z a0 hw _) rfl at_256 (q := 259) rfl (by decide) rfl (na := 2) (by decide +kernel) rfl (by decide) (W := 0) rfl (by decide) (by decide) (by decide) (k' := 14) (n' := 1060) rfl rfl ?_
        rintro _ _ ⟨rfl, hMq⟩
        rw [hMq]
        show Go _ _ _ _ _ _ _ _ _ _ [(.long (own_mn da db))]
        refine Go.lload C at_259 rfl rfl ?_
        refine Go.callS C (y := yN19) (as := [(.long (own_mn da db)), (.long dc)]) (rest := []) (wd hw 118 rfl) (wd hw 119 rfl) (wd hw 3 rfl) (wd hw 120 rfl) (m_minJ l Z a0 hw _) rfl at_261 (q := 264) rfl (by decide) rfl (na := 2) (by decide +kernel) rfl (by decide) (W := 0) rfl (by decide) (by decide) (by decide) (k' := 14) (n' := 1060) rfl rfl ?_
        rintro _ _ ⟨rfl, hMq⟩
        rw [hMq]
        show Go _ _ _ _ _ _ _ _ _ _ [(.long (own_mn (own_mn da db) dc))]
        refine Go.lstore C at_264 rfl (Ls' := #[.val (.int s0), .val (.long p0), .second, .val (.long x0), .second, .val (.long y0), .second, .val (.long z0), .second, .val (.long q0), .second, .val (.int (Int32.ofNat sN)), .val (.int (0 : Int32)), .val (.int (0 : Int32)), .val (.long last), .second, .val (.long da), .second, .val (.long db), .second, .val (.long dc), .second, .val (.long tg), .second, .val (.ref t0), .val (.ref t1), .val (.ref t2), .val (.ref w), .val (.int (1 : Int32)), .val (.long nt), .second, .val (.long (own_mn (own_mn da db) dc)), .second, .unset, .unset, .unset, .unset, .unset, .unset, .unset, .unset]) rfl ?_
        refine Go.lload C at_266 rfl rfl ?_
        refine Go.lload C at_268 rfl rfl ?_
        refine Go.callS C (y := yN19) (as := [(.long da), (.long db)]) (rest := []) (wd hw 118 rfl) (wd hw 119 rfl) (wd hw 3 rfl) (wd hw 120 rfl) (m_minJ l Z a0 hw _) rfl at_270 (q := 273) rfl (by decide) rfl (na := 2) (by decide +kernel) rfl (by decide) (W := 0) rfl (by decide) (by decide) (by decide) (k' := 14) (n' := 1060) rfl rfl ?_
        rintro _ _ ⟨rfl, hMq⟩
        rw [hMq]
        show Go _ _ _ _ _ _ _ _ _ _ [(.long (own_mn da db))]
        refine Go.lload C at_273 rfl rfl ?_
        refine Go.lload C at_275 rfl rfl ?_
        refine Go.callS C (y := yN1) (as := [(.long da), (.long db)]) (rest := [(.long (own_mn da db))]) (wd hw 1 rfl) (wd hw 2 rfl) (wd hw 3 rfl) (wd hw 4 rfl) (m_maxJ l Z a0 hw _) rfl at_277 (q := 280) rfl (by decide) rfl (na := 2) (by decide +kernel) rfl (by decide) (W := 2) rfl (by decide) (by decide) (by decide) (k' := 14) (n' := 1060) rfl rfl ?_
        rintro _ _ ⟨rfl, hMq⟩
        rw [hMq]
        show Go _ _ _ _ _ _ _ _ _ _ [(.long (own_mx da db)), (.long (own_mn da db))]
        refine Go.lload C at_280 rfl rfl ?_
        refine Go.callS C (y := yN19) (as := [(.long (own_mx da db)), (.long dc)]) (rest := [(.long (own_mn da db))]) (wd hw 118 rfl) (wd hw 119 rfl) (wd hw 3 rfl) (wd hw 120 rfl) (m_minJ l Z a0 hw _) rfl at_282 (q := 285) rfl (by decide) rfl (na := 2) (by decide +kernel) rfl (by decide) (W := 2) rfl (by decide) (by decide) (by decide) (k' := 14) (n' := 1060) rfl rfl ?_
        rintro _ _ ⟨rfl, hMq⟩
        rw [hMq]
        show Go _ _ _ _ _ _ _ _ _ _ [(.long (own_mn (own_mx da db) dc)), (.long (own_mn da db))]
        refine Go.callS C (y := yN1) (as := [(.long (own_mn da db)), (.long (own_mn (own_mx da db) dc))]) (rest := []) (wd hw 1 rfl) (wd hw 2 rfl) (wd hw 3 rfl) (wd hw 4 rfl) (m_maxJ l Z a0 hw _) rfl at_285 (q := 288) rfl (by decide) rfl (na := 2) (by decide +kernel) rfl (by decide) (W := 0) rfl (by decide) (by decide) (by decide) (k' := 14) (n' := 1060) rfl rfl ?_
        rintro _ _ ⟨rfl, hMq⟩
        rw [hMq]
        show Go _ _ _ _ _ _ _ _ _ _ [(.long (own_mx (own_mn da db) (own_mn (own_mx da db) dc)))]
        refine Go.lstore C at_288 rfl (Ls' := #[.val (.int s0), .val (.long p0), .second, .val (.long x0), .second, .val (.long y0), .second, .val (.long z0), .second, .val (.long q0), .second, .val (.int (Int32.ofNat sN)), .val (.int (0 : Int32)), .val (.int (0 : Int32)), .val (.long last), .second, .val (.long da), .second, .val (.long db), .second, .val (.long dc), .second, .val (.long tg), .second, .val (.ref t0), .val (.ref t1), .val (.ref t2), .val (.ref w), .val (.int (1 : Int32)), .val (.long nt), .second, .val (.long (own_mn (own_mn da db) dc)), .second, .val (.long (own_mx (own_mn da db) (own_mn (own_mx da db) dc))), .second, .unset, .unset, .unset, .unset, .unset, .unset]) rfl ?_
        refine Go.iload C at_290 rfl rfl ?_
        refine Go.ifNo C at_292 (q := 295) rfl (XT.i0_ne_f (by decide)) ?_
        refine Go.lconst C at_295 rfl (v := (0 : Int64)) rfl ?_
        refine Go.lstore C at_296 rfl (Ls' := #[.val (.int s0), .val (.long p0), .second, .val (.long x0), .second, .val (.long y0), .second, .val (.long z0), .second, .val (.long q0), .second, .val (.int (Int32.ofNat sN)), .val (.int (0 : Int32)), .val (.int (0 : Int32)), .val (.long last), .second, .val (.long da), .second, .val (.long db), .second, .val (.long dc), .second, .val (.long tg), .second, .val (.ref t0), .val (.ref t1), .val (.ref t2), .val (.ref w), .val (.int (1 : Int32)), .val (.long nt), .second, .val (.long (own_mn (own_mn da db) dc)), .second, .val (.long (own_mx (own_mn da db) (own_mn (own_mx da db) dc))), .second, .val (.long (0 : Int64)), .second, .unset, .unset, .unset, .unset]) rfl ?_
        refine Go.lload C at_298 rfl rfl ?_
        refine Go.lstore C at_300 rfl (Ls' := #[.val (.int s0), .val (.long p0), .second, .val (.long x0), .second, .val (.long y0), .second, .val (.long z0), .second, .val (.long q0), .second, .val (.int (Int32.ofNat sN)), .val (.int (0 : Int32)), .val (.int (0 : Int32)), .val (.long last), .second, .val (.long da), .second, .val (.long db), .second, .val (.long dc), .second, .val (.long tg), .second, .val (.ref t0), .val (.ref t1), .val (.ref t2), .val (.ref w), .val (.int (1 : Int32)), .val (.long nt), .second, .val (.long (own_mn (own_mn da db) dc)), .second, .val (.long (own_mx (own_mn da db) (own_mn (own_mx da db) dc))), .second, .val (.long (0 : Int64)), .second, .val (.long (own_mn (own_mn da db) dc)), .second, .unset, .unset]) rfl ?_
        refine Go.goto C at_302 (by decide) (q := 332) rfl ?_
        refine Go.lload C at_332 rfl rfl ?_
        refine Go.lload C at_334 rfl rfl ?_
        refine Go.iload C at_336 rfl rfl ?_
        refine Go.callS C (y := yN20) (as := [(.long (0 : Int64)), (.long (own_mn (own_mn da db) dc)), (.int (Int32.ofNat sN))]) (rest := []) (wd hw 121 rfl) (wd hw 122 rfl) (wd hw 123 rfl) (wd hw 124 rfl) (m_ev l Z a0 hw _ (t := 0) (d := (min (min NA NB) NC)) (own_mnI (own_mnI hda hdb) hdc) rfl hs1 hs8 (own_xorI (own_mnI (own_mnI hda hdb) hdc) rfl)) rfl at_338 (q := 341) rfl (by decide) rfl (na := 3) (by decide +kernel) rfl (by decide) (W := 0) rfl (by decide) (by decide) (by decide) (k' := 14) (n' := 1060) rfl rfl ?_
        rintro _ _ ⟨⟨ve, rfl, hve⟩, hMq⟩
        rw [hMq]
        show Go _ _ _ _ _ _ _ _ _ _ [(.long ve)]
        refine Go.lstore C at_341 rfl (Ls' := #[.val (.int s0), .val (.long p0), .second, .val (.long x0), .second, .val (.long y0), .second, .val (.long z0), .second, .val (.long q0), .second, .val (.int (Int32.ofNat sN)), .val (.int (0 : Int32)), .val (.int (0 : Int32)), .val (.long last), .second, .val (.long da), .second, .val (.long db), .second, .val (.long dc), .second, .val (.long tg), .second, .val (.ref t0), .val (.ref t1), .val (.ref t2), .val (.ref w), .val (.int (1 : Int32)), .val (.long nt), .second, .val (.long (own_mn (own_mn da db) dc)), .second, .val (.long (own_mx (own_mn da db) (own_mn (own_mx da db) dc))), .second, .val (.long (0 : Int64)), .second, .val (.long (own_mn (own_mn da db) dc)), .second, .val (.long ve), .second]) rfl ?_
        refine Go.iload C at_343 rfl rfl ?_
        refine Go.ifNo C at_345 (q := 348) rfl (XT.i0_eq_f (by decide)) ?_
        refine Go.lload C at_348 rfl rfl ?_
        refine Go.lload C at_350 rfl rfl ?_
        refine Go.lcmp C at_352 rfl ?_
        refine Go.ifNo C at_353 (q := 356) rfl (XT.ll_ne_f (Int64.toInt_inj.mp (by rw [hnt, hve, show 0 = 0 from (show 0 = 0 from by skip; omega), show (min (min NA NB) NC) = (min (min NA NB) NC) from (by skip; omega)]))) ?_
        refine Go.iconst C at_356 rfl (v := (1 : Int32)) rfl ?_
        refine Go.goto C at_357 (by decide) (q := 361) rfl ?_
        refine Go.retZ C rfl (by decide) at_361 (by decide) (by decide) ?_
        exact rfl
      · refine Go.iload C at_188 rfl rfl ?_
        refine Go.ifYes C at_190 (by decide) (q := 206) rfl (XT.i0_eq_t (by decide)) ?_
        refine Go.iload C at_206 rfl rfl ?_
        refine Go.ifNo C at_208 (q := 211) rfl (XT.i0_eq_f (by decide)) ?_
        refine Go.aload C at_211 rfl rfl rfl ?_
        refine Go.lload C at_213 rfl rfl ?_
        refine Go.callV C (y := yN25) (z := yN25) (a := w) (as := [(.long tg)]) (rest := []) (wd hw 144 rfl) (wd hw 145 rfl) (nf_sel (z := yN25) (wd hw 147 rfl)) (wd hw 147 rfl) (wd hw 146 rfl) (wd hw 148 rfl) (wd hw 20 rfl) (fun _ r => r.exa 3 rfl) (own_pollM l Z a0 hw (D := (own_upd (own_upd (own_upd (fun _ => (0 : Int64)) 0 (own_mx da ((0 : Int64) + (1 : Int64)))) 1 (own_mx db ((0 : Int64) + (1 : Int64)))) 2 (own_mx dc ((0 : Int64) + (1 : Int64))))) (s := (fun _ => (0 : Int32))) (p := p3) (nx := nx3) (t := 0) (dN := own_n3 NA NB NC) hZ hG hsum hDD htg hgb hT ⟨0, by decide, by decide⟩ hI3 rfl (Nat.zero_le _) (fun _ _ => Nat.zero_le _) hRf (fun i hi _ => hY.symm.subset (by simp; omega))) rfl at_215 (q := 218) rfl (by decide) rfl (na := 1) (by decide +kernel) rfl (by decide) (W := 0) rfl (by decide) (by decide) (by decide) (k' := 140) (n' := 3140) rfl rfl ?_
        rintro _ _ ⟨v, tk4, p4, nx4, vs4, fs4, cs4, LS4, B4, R4, ks4, rfl, hvr, rfl, hI4, hF4, hO⟩
        show Go _ _ _ _ _ _ _ _ _ _ [v]
        refine Go.pop C at_218 rfl (XT.cat1 hvr) ?_
        rcases hO with ⟨hT4, hg4, hl4⟩ | ⟨x, hx1, hx3, hxl, hxn, hxg, hxm, hxo⟩
        · refine Go.aload C at_219 rfl rfl rfl ?_
          refine Go.callV C (y := yN7) (z := yN7) (a := w) (as := []) (rest := []) (wd hw 55 rfl) (wd hw 56 rfl) (nf_sel (z := yN7) (wd hw 58 rfl)) (wd hw 58 rfl) (wd hw 57 rfl) (wd hw 59 rfl) (wd hw 20 rfl) (fun _ r => r.exa 3 rfl) (m_neN l Z a0 hw (D := (own_upd (own_upd (own_upd (fun _ => (0 : Int64)) 0 (own_mx da ((0 : Int64) + (1 : Int64)))) 1 (own_mx db ((0 : Int64) + (1 : Int64)))) 2 (own_mx dc ((0 : Int64) + (1 : Int64))))) (s := (fun _ => (0 : Int32))) (p := p4) (nx := nx4) (t := NG) (m := (min (min NA NB) NC)) hZ hG hDD hI4 hT4 (fun i hi => Nat.le_of_lt (hg4 i hi)) (own_m3 (hl4 0 (by decide) (by decide)) (hl4 1 (by decide) (by decide)) (hl4 2 (by decide) (by decide))) (fun i _ => own_l3 i)) rfl at_221 (q := 224) rfl (by decide) rfl (na := 0) (by decide +kernel) rfl (by decide) (W := 0) rfl (by decide) (by decide) (by decide) (k' := 140) (n' := 3140) rfl rfl ?_
          rintro _ Mz ⟨nt, rfl, hnt⟩
          show Go _ _ _ _ _ _ _ _ _ _ [(.long nt)]
          refine Go.lstore C at_224 rfl (Ls' := #[.val (.int s0), .val (.long p0), .second, .val (.long x0), .second, .val (.long y0), .second, .val (.long z0), .second, .val (.long q0), .second, .val (.int (Int32.ofNat sN)), .val (.int (0 : Int32)), .val (.int (1 : Int32)), .val (.long last), .second, .val (.long da), .second, .val (.long db), .second, .val (.long dc), .second, .val (.long tg), .second, .val (.ref t0), .val (.ref t1), .val (.ref t2), .val (.ref w), .val (.int (1 : Int32)), .val (.long nt), .second, .unset, .unset, .unset, .unset, .unset, .unset, .unset, .unset, .unset, .unset]) rfl ?_
          refine Go.iload C at_226 rfl rfl ?_
          refine Go.ifYes C at_228 (by decide) (q := 252) rfl (XT.i0_eq_t (by decide)) ?_
          refine Go.lload C at_252 rfl rfl ?_
          refine Go.lload C at_254 rfl rfl ?_
          refine Go.callS C (y := yN19) (as := [(.long da), (.long db)]) (rest := []) (wd hw 118 rfl) (wd hw 119 rfl) (wd hw 3 rfl) (wd hw 120 rfl) (m_minJ l Z a0 hw _) rfl at_256 (q := 259) rfl (by decide) rfl (na := 2) (by decide +kernel) rfl (by decide) (W := 0) rfl (by decide) (by decide) (by decide) (k' := 140) (n' := 3140) rfl rfl ?_
          rintro _ _ ⟨rfl, hMq⟩
          rw [hMq]
          show Go _ _ _ _ _ _ _ _ _ _ [(.long (own_mn da db))]
          refine Go.lload C at_259 rfl rfl ?_
          refine Go.callS C (y := yN19) (as := [(.long (own_mn da db)), (.long dc)]) (rest := []) (wd hw 118 rfl) (wd hw 119 rfl) (wd hw 3 rfl) (wd hw 120 rfl) (m_minJ l Z a0 hw _) rfl at_261 (q := 264) rfl (by decide) rfl (na := 2) (by decide +kernel) rfl (by decide) (W := 0) rfl (by decide) (by decide) (by decide) (k' := 140) (n' := 3140) rfl rfl ?_
          rintro _ _ ⟨rfl, hMq⟩
          rw [hMq]
          show Go _ _ _ _ _ _ _ _ _ _ [(.long (own_mn (own_mn da db) dc))]
          refine Go.lstore C at_264 rfl (Ls' := #[.val (.int s0), .val (.long p0), .second, .val (.long x0), .second, .val (.long y0), .second, .val (.long z0), .second, .val (.long q0), .second, .val (.int (Int32.ofNat sN)), .val (.int (0 : Int32)), .val (.int (1 : Int32)), .val (.long last), .second, .val (.long da), .second, .val (.long db), .second, .val (.long dc), .second, .val (.long tg), .second, .val (.ref t0), .val (.ref t1), .val (.ref t2), .val (.ref w), .val (.int (1 : Int32)), .val (.long nt), .second, .val (.long (own_mn (own_mn da db) dc)), .second, .unset, .unset, .unset, .unset, .unset, .unset, .unset, .unset]) rfl ?_
          refine Go.lload C at_266 rfl rfl ?_
          refine Go.lload C at_268 rfl rfl ?_
          refine Go.callS C (y := yN19) (as := [(.long da), (.long db)]) (rest := []) (wd hw 118 rfl) (wd hw 119 rfl) (wd hw 3 rfl) (wd hw 120 rfl) (m_minJ l Z a0 hw _) rfl at_270 (q := 273) rfl (by decide) rfl (na := 2) (by decide +kernel) rfl (by decide) (W := 0) rfl (by decide) (by decide) (by decide) (k' := 140) (n' := 3140) rfl rfl ?_
          rintro _ _ ⟨rfl, hMq⟩
          rw [hMq]
          show Go _ _ _ _ _ _ _ _ _ _ [(.long (own_mn da db))]
          refine Go.lload C at_273 rfl rfl ?_
          refine Go.lload C at_275 rfl rfl ?_
          refine Go.callS C (y := yN1) (as := [(.long da), (.long db)]) (rest := [(.long (own_mn da db))]) (wd hw 1 rfl) (wd hw 2 rfl) (wd hw 3 rfl) (wd hw 4 rfl) (m_maxJ l Z a0 hw _) rfl at_277 (q := 280) rfl (by decide) rfl (na := 2) (by decide +kernel) rfl (by decide) (W := 2) rfl (by decide) (by decide) (by decide) (k' := 140) (n' := 3140) rfl rfl ?_
          rintro _ _ ⟨rfl, hMq⟩
          rw [hMq]
          show Go _ _ _ _ _ _ _ _ _ _ [(.long (own_mx da db)), (.long (own_mn da db))]
          refine Go.lload C at_280 rfl rfl ?_
          refine Go.callS C (y := yN19) (as := [(.long (own_mx da db)), (.long dc)]) (rest := [(.long (own_mn da db))]) (wd hw 118 rfl) (wd hw 119 rfl) (wd hw 3 rfl) (wd hw 120 rfl) (m_minJ l Z a0 hw _) rfl at_282 (q := 285) rfl (by decide) rfl (na := 2) (by decide +kernel) rfl (by decide) (W := 2) rfl (by decide) (by decide) (by decide) (k' := 140) (n' := 3140) rfl rfl ?_
          rintro _ _ ⟨rfl, hMq⟩
          rw [hMq]
          show Go _ _ _ _ _ _ _ _ _ _ [(.long (own_mn (own_mx da db) dc)), (.long (own_mn da db))]
          refine Go.callS C (y := yN1) (as := [(.long (own_mn da db)), (.long (own_mn (own_mx da db) dc))]) (rest := []) (wd hw 1 rfl) (wd hw 2 rfl) (wd hw 3 rfl) (wd hw 4 rfl) (m_maxJ l Z a0 hw _) rfl at_285 (q := 288) rfl (by decide) rfl (na := 2) (by decide +kernel) rfl (by decide) (W := 0) rfl (by decide) (by decide) (by decide) (k' := 140) (n' := 3140) rfl rfl ?_
          rintro _ _ ⟨rfl, hMq⟩
          rw [hMq]
          show Go _ _ _ _ _ _ _ _ _ _ [(.long (own_mx (own_mn da db) (own_mn (own_mx da db) dc)))]
          refine Go.lstore C at_288 rfl (Ls' := #[.val (.int s0), .val (.long p0), .second, .val (.long x0), .second, .val (.long y0), .second, .val (.long z0), .second, .val (.long q0), .second, .val (.int (Int32.ofNat sN)), .val (.int (0 : Int32)), .val (.int (1 : Int32)), .val (.long last), .second, .val (.long da), .second, .val (.long db), .second, .val (.long dc), .second, .val (.long tg), .second, .val (.ref t0), .val (.ref t1), .val (.ref t2), .val (.ref w), .val (.int (1 : Int32)), .val (.long nt), .second, .val (.long (own_mn (own_mn da db) dc)), .second, .val (.long (own_mx (own_mn da db) (own_mn (own_mx da db) dc))), .second, .unset, .unset, .unset, .unset, .unset, .unset]) rfl ?_
          refine Go.iload C at_290 rfl rfl ?_
          refine Go.ifYes C at_292 (by decide) (q := 305) rfl (XT.i0_ne_t (by decide)) ?_
          refine Go.lload C at_305 rfl rfl ?_
          refine Go.lload C at_307 rfl rfl ?_
          refine Go.lcmp C at_309 rfl ?_
          refine Go.ifYes C at_310 (by decide) (q := 324) rfl (XT.ll_gt_t (by rw [Int64.lt_iff_toInt_lt, htg, (own_mnI (own_mnI hda hdb) hdc)]; have f0 : NG < NA := hg4 0 (hl4 0 (by decide) (by decide)); have f1 : NG < NB := hg4 1 (hl4 1 (by decide) (by decide)); have f2 : NG < NC := hg4 2 (hl4 2 (by decide) (by decide)); omega)) ?_
          refine Go.lload C at_324 rfl rfl ?_
          refine Go.lstore C at_326 rfl (Ls' := #[.val (.int s0), .val (.long p0), .second, .val (.long x0), .second, .val (.long y0), .second, .val (.long z0), .second, .val (.long q0), .second, .val (.int (Int32.ofNat sN)), .val (.int (0 : Int32)), .val (.int (1 : Int32)), .val (.long last), .second, .val (.long da), .second, .val (.long db), .second, .val (.long dc), .second, .val (.long tg), .second, .val (.ref t0), .val (.ref t1), .val (.ref t2), .val (.ref w), .val (.int (1 : Int32)), .val (.long nt), .second, .val (.long (own_mn (own_mn da db) dc)), .second, .val (.long (own_mx (own_mn da db) (own_mn (own_mx da db) dc))), .second, .val (.long tg), .second, .unset, .unset, .unset, .unset]) rfl ?_
          refine Go.lload C at_328 rfl rfl ?_
          refine Go.lstore C at_330 rfl (Ls' := #[.val (.int s0), .val (.long p0), .second, .val (.long x0), .second, .val (.long y0), .second, .val (.long z0), .second, .val (.long q0), .second, .val (.int (Int32.ofNat sN)), .val (.int (0 : Int32)), .val (.int (1 : Int32)), .val (.long last), .second, .val (.long da), .second, .val (.long db), .second, .val (.long dc), .second, .val (.long tg), .second, .val (.ref t0), .val (.ref t1), .val (.ref t2), .val (.ref w), .val (.int (1 : Int32)), .val (.long nt), .second, .val (.long (own_mn (own_mn da db) dc)), .second, .val (.long (own_mx (own_mn da db) (own_mn (own_mx da db) dc))), .second, .val (.long tg), .second, .val (.long (own_mn (own_mn da db) dc)), .second, .unset, .unset]) rfl ?_
          refine Go.lload C at_332 rfl rfl ?_
          refine Go.lload C at_334 rfl rfl ?_
          refine Go.iload C at_336 rfl rfl ?_
          refine Go.callS C (y := yN20) (as := [(.long tg), (.long (own_mn (own_mn da db) dc)), (.int (Int32.ofNat sN))]) (rest := []) (wd hw 121 rfl) (wd hw 122 rfl) (wd hw 123 rfl) (wd hw 124 rfl) (m_ev l Z a0 hw _ (t := NG) (d := (min (min NA NB) NC)) (own_mnI (own_mnI hda hdb) hdc) htg hs1 hs8 (own_xorI (own_mnI (own_mnI hda hdb) hdc) htg)) rfl at_338 (q := 341) rfl (by decide) rfl (na := 3) (by decide +kernel) rfl (by decide) (W := 0) rfl (by decide) (by decide) (by decide) (k' := 140) (n' := 3140) rfl rfl ?_
          rintro _ _ ⟨⟨ve, rfl, hve⟩, hMq⟩
          rw [hMq]
          show Go _ _ _ _ _ _ _ _ _ _ [(.long ve)]
          refine Go.lstore C at_341 rfl (Ls' := #[.val (.int s0), .val (.long p0), .second, .val (.long x0), .second, .val (.long y0), .second, .val (.long z0), .second, .val (.long q0), .second, .val (.int (Int32.ofNat sN)), .val (.int (0 : Int32)), .val (.int (1 : Int32)), .val (.long last), .second, .val (.long da), .second, .val (.long db), .second, .val (.long dc), .second, .val (.long tg), .second, .val (.ref t0), .val (.ref t1), .val (.ref t2), .val (.ref w), .val (.int (1 : Int32)), .val (.long nt), .second, .val (.long (own_mn (own_mn da db) dc)), .second, .val (.long (own_mx (own_mn da db) (own_mn (own_mx da db) dc))), .second, .val (.long tg), .second, .val (.long (own_mn (own_mn da db) dc)), .second, .val (.long ve), .second]) rfl ?_
          refine Go.iload C at_343 rfl rfl ?_
          refine Go.ifNo C at_345 (q := 348) rfl (XT.i0_eq_f (by decide)) ?_
          refine Go.lload C at_348 rfl rfl ?_
          refine Go.lload C at_350 rfl rfl ?_
          refine Go.lcmp C at_352 rfl ?_
          refine Go.ifNo C at_353 (q := 356) rfl (XT.ll_ne_f (Int64.toInt_inj.mp (by rw [hnt, hve, show NG = NG from (show NG = NG from by have f0 : NG < NA := hg4 0 (hl4 0 (by decide) (by decide)); have f1 : NG < NB := hg4 1 (hl4 1 (by decide) (by decide)); have f2 : NG < NC := hg4 2 (hl4 2 (by decide) (by decide)); omega), show (min (min NA NB) NC) = (min (min NA NB) NC) from (by have f0 : NG < NA := hg4 0 (hl4 0 (by decide) (by decide)); have f1 : NG < NB := hg4 1 (hl4 1 (by decide) (by decide)); have f2 : NG < NC := hg4 2 (hl4 2 (by decide) (by decide)); omega)]))) ?_
          refine Go.iconst C at_356 rfl (v := (1 : Int32)) rfl ?_
          refine Go.goto C at_357 (by decide) (q := 361) rfl ?_
          refine Go.retZ C rfl (by decide) at_361 (by decide) (by decide) ?_
          exact rfl
        · obtain rfl | rfl | rfl : x = 0 ∨ x = 1 ∨ x = 2 := by omega
          · skip
            refine Go.aload C at_219 rfl rfl rfl ?_
            refine Go.callV C (y := yN7) (z := yN7) (a := w) (as := []) (rest := []) (wd hw 55 rfl) (wd hw 56 rfl) (nf_sel (z := yN7) (wd hw 58 rfl)) (wd hw 58 rfl) (wd hw 57 rfl) (wd hw 59 rfl) (wd hw 20 rfl) (fun _ r => r.exa 3 rfl) (m_neN l Z a0 hw (D := (own_upd (own_upd (own_upd (fun _ => (0 : Int64)) 0 (own_mx da ((0 : Int64) + (1 : Int64)))) 1 (own_mx db ((0 : Int64) + (1 : Int64)))) 2 (own_mx dc ((0 : Int64) + (1 : Int64))))) (s := (fun _ => (0 : Int32))) (p := p4) (nx := nx4) (t := (own_n3 NA NB NC 0)) (m := (min NB NC)) hZ hG hDD hI4 hx1 hxm (own_m12 (hxo 1 (by decide) (by decide) (by decide)) (hxo 2 (by decide) (by decide) (by decide))) (fun i hi => own_l12 (fun e => hxn (e ▸ hi)))) rfl at_221 (q := 224) rfl (by decide) rfl (na := 0) (by decide +kernel) rfl (by decide) (W := 0) rfl (by decide) (by decide) (by decide) (k' := 140) (n' := 3140) rfl rfl ?_
            rintro _ Mz ⟨nt, rfl, hnt⟩
            show Go _ _ _ _ _ _ _ _ _ _ [(.long nt)]
            refine Go.lstore C at_224 rfl (Ls' := #[.val (.int s0), .val (.long p0), .second, .val (.long x0), .second, .val (.long y0), .second, .val (.long z0), .second, .val (.long q0), .second, .val (.int (Int32.ofNat sN)), .val (.int (0 : Int32)), .val (.int (1 : Int32)), .val (.long last), .second, .val (.long da), .second, .val (.long db), .second, .val (.long dc), .second, .val (.long tg), .second, .val (.ref t0), .val (.ref t1), .val (.ref t2), .val (.ref w), .val (.int (1 : Int32)), .val (.long nt), .second, .unset, .unset, .unset, .unset, .unset, .unset, .unset, .unset, .unset, .unset]) rfl ?_
            refine Go.iload C at_226 rfl rfl ?_
            refine Go.ifYes C at_228 (by decide) (q := 252) rfl (XT.i0_eq_t (by decide)) ?_
            refine Go.lload C at_252 rfl rfl ?_
            refine Go.lload C at_254 rfl rfl ?_
            refine Go.callS C (y := yN19) (as := [(.long da), (.long db)]) (rest := []) (wd hw 118 rfl) (wd hw 119 rfl) (wd hw 3 rfl) (wd hw 120 rfl) (m_minJ l Z a0 hw _) rfl at_256 (q := 259) rfl (by decide) rfl (na := 2) (by decide +kernel) rfl (by decide) (W := 0) rfl (by decide) (by decide) (by decide) (k' := 140) (n' := 3140) rfl rfl ?_
            rintro _ _ ⟨rfl, hMq⟩
            rw [hMq]
            show Go _ _ _ _ _ _ _ _ _ _ [(.long (own_mn da db))]
            refine Go.lload C at_259 rfl rfl ?_
            refine Go.callS C (y := yN19) (as := [(.long (own_mn da db)), (.long dc)]) (rest := []) (wd hw 118 rfl) (wd hw 119 rfl) (wd hw 3 rfl) (wd hw 120 rfl) (m_minJ l Z a0 hw _) rfl at_261 (q := 264) rfl (by decide) rfl (na := 2) (by decide +kernel) rfl (by decide) (W := 0) rfl (by decide) (by decide) (by decide) (k' := 140) (n' := 3140) rfl rfl ?_
            rintro _ _ ⟨rfl, hMq⟩
            rw [hMq]
            show Go _ _ _ _ _ _ _ _ _ _ [(.long (own_mn (own_mn da db) dc))]
            refine Go.lstore C at_264 rfl (Ls' := #[.val (.int s0), .val (.long p0), .second, .val (.long x0), .second, .val (.long y0), .second, .val (.long z0), .second, .val (.long q0), .second, .val (.int (Int32.ofNat sN)), .val (.int (0 : Int32)), .val (.int (1 : Int32)), .val (.long last), .second, .val (.long da), .second, .val (.long db), .second, .val (.long dc), .second, .val (.long tg), .second, .val (.ref t0), .val (.ref t1), .val (.ref t2), .val (.ref w), .val (.int (1 : Int32)), .val (.long nt), .second, .val (.long (own_mn (own_mn da db) dc)), .second, .unset, .unset, .unset, .unset, .unset, .unset, .unset, .unset]) rfl ?_
            refine Go.lload C at_266 rfl rfl ?_
            refine Go.lload C at_268 rfl rfl ?_
            refine Go.callS C (y := yN19) (as := [(.long da), (.long db)]) (rest := []) (wd hw 118 rfl) (wd hw 119 rfl) (wd hw 3 rfl) (wd hw 120 rfl) (m_minJ l Z a0 hw _) rfl at_270 (q := 273) rfl (by decide) rfl (na := 2) (by decide +kernel) rfl (by decide) (W := 0) rfl (by decide) (by decide) (by decide) (k' := 140) (n' := 3140) rfl rfl ?_
            rintro _ _ ⟨rfl, hMq⟩
            rw [hMq]
            show Go _ _ _ _ _ _ _ _ _ _ [(.long (own_mn da db))]
            refine Go.lload C at_273 rfl rfl ?_
            refine Go.lload C at_275 rfl rfl ?_
            refine Go.callS C (y := yN1) (as := [(.long da), (.long db)]) (rest := [(.long (own_mn da db))]) (wd hw 1 rfl) (wd hw 2 rfl) (wd hw 3 rfl) (wd hw 4 rfl) (m_maxJ l Z a0 hw _) rfl at_277 (q := 280) rfl (by decide) rfl (na := 2) (by decide +kernel) rfl (by decide) (W := 2) rfl (by decide) (by decide) (by decide) (k' := 140) (n' := 3140) rfl rfl ?_
            rintro _ _ ⟨rfl, hMq⟩
            rw [hMq]
            show Go _ _ _ _ _ _ _ _ _ _ [(.long (own_mx da db)), (.long (own_mn da db))]
            refine Go.lload C at_280 rfl rfl ?_
            refine Go.callS C (y := yN19) (as := [(.long (own_mx da db)), (.long dc)]) (rest := [(.long (own_mn da db))]) (wd hw 118 rfl) (wd hw 119 rfl) (wd hw 3 rfl) (wd hw 120 rfl) (m_minJ l Z a0 hw _) rfl at_282 (q := 285) rfl (by decide) rfl (na := 2) (by decide +kernel) rfl (by decide) (W := 2) rfl (by decide) (by decide) (by decide) (k' := 140) (n' := 3140) rfl rfl ?_
            rintro _ _ ⟨rfl, hMq⟩
            rw [hMq]
            show Go _ _ _ _ _ _ _ _ _ _ [(.long (own_mn (own_mx da db) dc)), (.long (own_mn da db))]
            refine Go.callS C (y := yN1) (as := [(.long (own_mn da db)), (.long (own_mn (own_mx da db) dc))]) (rest := []) (wd hw 1 rfl) (wd hw 2 rfl) (wd hw 3 rfl) (wd hw 4 rfl) (m_maxJ l Z a0 hw _) rfl at_285 (q := 288) rfl (by decide) rfl (na := 2) (by decide +kernel) rfl (by decide) (W := 0) rfl (by decide) (by decide) (by decide) (k' := 140) (n' := 3140) rfl rfl ?_
            rintro _ _ ⟨rfl, hMq⟩
            rw [hMq]
            show Go _ _ _ _ _ _ _ _ _ _ [(.long (own_mx (own_mn da db) (own_mn (own_mx da db) dc)))]
            refine Go.lstore C at_288 rfl (Ls' := #[.val (.int s0), .val (.long p0), .second, .val (.long x0), .second, .val (.long y0), .second, .val (.long z0), .second, .val (.long q0), .second, .val (.int (Int32.ofNat sN)), .val (.int (0 : Int32)), .val (.int (1 : Int32)), .val (.long last), .second, .val (.long da), .second, .val (.long db), .second, .val (.long dc), .second, .val (.long tg), .second, .val (.ref t0), .val (.ref t1), .val (.ref t2), .val (.ref w), .val (.int (1 : Int32)), .val (.long nt), .second, .val (.long (own_mn (own_mn da db) dc)), .second, .val (.long (own_mx (own_mn da db) (own_mn (own_mx da db) dc))), .second, .unset, .unset, .unset, .unset, .unset, .unset]) rfl ?_
            refine Go.iload C at_290 rfl rfl ?_
            refine Go.ifYes C at_292 (by decide) (q := 305) rfl (XT.i0_ne_t (by decide)) ?_
            refine Go.lload C at_305 rfl rfl ?_
            refine Go.lload C at_307 rfl rfl ?_
            refine Go.lcmp C at_309 rfl ?_
            refine Go.ifNo C at_310 (q := 313) rfl (XT.ll_gt_f (by rw [Int64.lt_iff_toInt_lt, htg, (own_mnI (own_mnI hda hdb) hdc)]; have f1 : NA ≤ NB := hxm 1 (hxo 1 (by decide) (by decide) (by decide)); have f2 : NA ≤ NC := hxm 2 (hxo 2 (by decide) (by decide) (by decide)); have fg : NA ≤ NG := hxg; omega)) ?_
            refine Go.lload C at_313 rfl rfl ?_
            refine Go.lstore C at_315 rfl (Ls' := #[.val (.int s0), .val (.long p0), .second, .val (.long x0), .second, .val (.long y0), .second, .val (.long z0), .second, .val (.long q0), .second, .val (.int (Int32.ofNat sN)), .val (.int (0 : Int32)), .val (.int (1 : Int32)), .val (.long last), .second, .val (.long da), .second, .val (.long db), .second, .val (.long dc), .second, .val (.long tg), .second, .val (.ref t0), .val (.ref t1), .val (.ref t2), .val (.ref w), .val (.int (1 : Int32)), .val (.long nt), .second, .val (.long (own_mn (own_mn da db) dc)), .second, .val (.long (own_mx (own_mn da db) (own_mn (own_mx da db) dc))), .second, .val (.long (own_mn (own_mn da db) dc)), .second, .unset, .unset, .unset, .unset]) rfl ?_
            refine Go.lload C at_317 rfl rfl ?_
            refine Go.lstore C at_319 rfl (Ls' := #[.val (.int s0), .val (.long p0), .second, .val (.long x0), .second, .val (.long y0), .second, .val (.long z0), .second, .val (.long q0), .second, .val (.int (Int32.ofNat sN)), .val (.int (0 : Int32)), .val (.int (1 : Int32)), .val (.long last), .second, .val (.long da), .second, .val (.long db), .second, .val (.long dc), .second, .val (.long tg), .second, .val (.ref t0), .val (.ref t1), .val (.ref t2), .val (.ref w), .val (.int (1 : Int32)), .val (.long nt), .second, .val (.long (own_mn (own_mn da db) dc)), .second, .val (.long (own_mx (own_mn da db) (own_mn (own_mx da db) dc))), .second, .val (.long (own_mn (own_mn da db) dc)), .second, .val (.long (own_mx (own_mn da db) (own_mn (own_mx da db) dc))), .second, .unset, .unset]) rfl ?_
            refine Go.goto C at_321 (by decide) (q := 332) rfl ?_
            refine Go.lload C at_332 rfl rfl ?_
            refine Go.lload C at_334 rfl rfl ?_
            refine Go.iload C at_336 rfl rfl ?_
            refine Go.callS C (y := yN20) (as := [(.long (own_mn (own_mn da db) dc)), (.long (own_mx (own_mn da db) (own_mn (own_mx da db) dc))), (.int (Int32.ofNat sN))]) (rest := []) (wd hw 121 rfl) (wd hw 122 rfl) (wd hw 123 rfl) (wd hw 124 rfl) (m_ev l Z a0 hw _ (t := (min (min NA NB) NC)) (d := (max (min NA NB) (min (max NA NB) NC))) (own_mxI (own_mnI hda hdb) (own_mnI (own_mxI hda hdb) hdc)) (own_mnI (own_mnI hda hdb) hdc) hs1 hs8 (own_xorI (own_mxI (own_mnI hda hdb) (own_mnI (own_mxI hda hdb) hdc)) (own_mnI (own_mnI hda hdb) hdc))) rfl at_338 (q := 341) rfl (by decide) rfl (na := 3) (by decide +kernel) rfl (by decide) (W := 0) rfl (by decide) (by decide) (by decide) (k' := 140) (n' := 3140) rfl rfl ?_
            rintro _ _ ⟨⟨ve, rfl, hve⟩, hMq⟩
            rw [hMq]
            show Go _ _ _ _ _ _ _ _ _ _ [(.long ve)]
            refine Go.lstore C at_341 rfl (Ls' := #[.val (.int s0), .val (.long p0), .second, .val (.long x0), .second, .val (.long y0), .second, .val (.long z0), .second, .val (.long q0), .second, .val (.int (Int32.ofNat sN)), .val (.int (0 : Int32)), .val (.int (1 : Int32)), .val (.long last), .second, .val (.long da), .second, .val (.long db), .second, .val (.long dc), .second, .val (.long tg), .second, .val (.ref t0), .val (.ref t1), .val (.ref t2), .val (.ref w), .val (.int (1 : Int32)), .val (.long nt), .second, .val (.long (own_mn (own_mn da db) dc)), .second, .val (.long (own_mx (own_mn da db) (own_mn (own_mx da db) dc))), .second, .val (.long (own_mn (own_mn da db) dc)), .second, .val (.long (own_mx (own_mn da db) (own_mn (own_mx da db) dc))), .second, .val (.long ve), .second]) rfl ?_
            refine Go.iload C at_343 rfl rfl ?_
            refine Go.ifNo C at_345 (q := 348) rfl (XT.i0_eq_f (by decide)) ?_
            refine Go.lload C at_348 rfl rfl ?_
            refine Go.lload C at_350 rfl rfl ?_
            refine Go.lcmp C at_352 rfl ?_
            refine Go.ifNo C at_353 (q := 356) rfl (XT.ll_ne_f (Int64.toInt_inj.mp (by rw [hnt, hve, show (min (min NA NB) NC) = (own_n3 NA NB NC 0) from (show (min (min NA NB) NC) = NA from by have f1 : NA ≤ NB := hxm 1 (hxo 1 (by decide) (by decide) (by decide)); have f2 : NA ≤ NC := hxm 2 (hxo 2 (by decide) (by decide) (by decide)); have fg : NA ≤ NG := hxg; omega), show (max (min NA NB) (min (max NA NB) NC)) = (min NB NC) from (by have f1 : NA ≤ NB := hxm 1 (hxo 1 (by decide) (by decide) (by decide)); have f2 : NA ≤ NC := hxm 2 (hxo 2 (by decide) (by decide) (by decide)); have fg : NA ≤ NG := hxg; omega)]))) ?_
            refine Go.iconst C at_356 rfl (v := (1 : Int32)) rfl ?_
            refine Go.goto C at_357 (by decide) (q := 361) rfl ?_
            refine Go.retZ C rfl (by decide) at_361 (by decide) (by decide) ?_
            exact rfl
          · skip
            refine Go.aload C at_219 rfl rfl rfl ?_
            refine Go.callV C (y := yN7) (z := yN7) (a := w) (as := []) (rest := []) (wd hw 55 rfl) (wd hw 56 rfl) (nf_sel (z := yN7) (wd hw 58 rfl)) (wd hw 58 rfl) (wd hw 57 rfl) (wd hw 59 rfl) (wd hw 20 rfl) (fun _ r => r.exa 3 rfl) (m_neN l Z a0 hw (D := (own_upd (own_upd (own_upd (fun _ => (0 : Int64)) 0 (own_mx da ((0 : Int64) + (1 : Int64)))) 1 (own_mx db ((0 : Int64) + (1 : Int64)))) 2 (own_mx dc ((0 : Int64) + (1 : Int64))))) (s := (fun _ => (0 : Int32))) (p := p4) (nx := nx4) (t := (own_n3 NA NB NC 1)) (m := (min NA NC)) hZ hG hDD hI4 hx1 hxm (own_m02 (hxo 0 (by decide) (by decide) (by decide)) (hxo 2 (by decide) (by decide) (by decide))) (fun i hi => own_l02 (fun e => hxn (e ▸ hi)))) rfl at_221 (q := 224) rfl (by decide) rfl (na := 0) (by decide +kernel) rfl (by decide) (W := 0) rfl (by decide) (by decide) (by decide) (k' := 140) (n' := 3140) rfl rfl ?_
            rintro _ Mz ⟨nt, rfl, hnt⟩
            show Go _ _ _ _ _ _ _ _ _ _ [(.long nt)]
            refine Go.lstore C at_224 rfl (Ls' := #[.val (.int s0), .val (.long p0), .second, .val (.long x0), .second, .val (.long y0), .second, .val (.long z0), .second, .val (.long q0), .second, .val (.int (Int32.ofNat sN)), .val (.int (0 : Int32)), .val (.int (1 : Int32)), .val (.long last), .second, .val (.long da), .second, .val (.long db), .second, .val (.long dc), .second, .val (.long tg), .second, .val (.ref t0), .val (.ref t1), .val (.ref t2), .val (.ref w), .val (.int (1 : Int32)), .val (.long nt), .second, .unset, .unset, .unset, .unset, .unset, .unset, .unset, .unset, .unset, .unset]) rfl ?_
            refine Go.iload C at_226 rfl rfl ?_
            refine Go.ifYes C at_228 (by decide) (q := 252) rfl (XT.i0_eq_t (by decide)) ?_
            refine Go.lload C at_252 rfl rfl ?_
            refine Go.lload C at_254 rfl rfl ?_
            refine Go.callS C (y := yN19) (as := [(.long da), (.long db)]) (rest := []) (wd hw 118 rfl) (wd hw 119 rfl) (wd hw 3 rfl) (wd hw 120 rfl) (m_minJ l Z a0 hw _) rfl at_256 (q := 259) rfl (by decide) rfl (na := 2) (by decide +kernel) rfl (by decide) (W := 0) rfl (by decide) (by decide) (by decide) (k' := 140) (n' := 3140) rfl rfl ?_
            rintro _ _ ⟨rfl, hMq⟩
            rw [hMq]
            show Go _ _ _ _ _ _ _ _ _ _ [(.long (own_mn da db))]
            refine Go.lload C at_259 rfl rfl ?_
            refine Go.callS C (y := yN19) (as := [(.long (own_mn da db)), (.long dc)]) (rest := []) (wd hw 118 rfl) (wd hw 119 rfl) (wd hw 3 rfl) (wd hw 120 rfl) (m_minJ l Z a0 hw _) rfl at_261 (q := 264) rfl (by decide) rfl (na := 2) (by decide +kernel) rfl (by decide) (W := 0) rfl (by decide) (by decide) (by decide) (k' := 140) (n' := 3140) rfl rfl ?_
            rintro _ _ ⟨rfl, hMq⟩
            rw [hMq]
            show Go _ _ _ _ _ _ _ _ _ _ [(.long (own_mn (own_mn da db) dc))]
            refine Go.lstore C at_264 rfl (Ls' := #[.val (.int s0), .val (.long p0), .second, .val (.long x0), .second, .val (.long y0), .second, .val (.long z0), .second, .val (.long q0), .second, .val (.int (Int32.ofNat sN)), .val (.int (0 : Int32)), .val (.int (1 : Int32)), .val (.long last), .second, .val (.long da), .second, .val (.long db), .second, .val (.long dc), .second, .val (.long tg), .second, .val (.ref t0), .val (.ref t1), .val (.ref t2), .val (.ref w), .val (.int (1 : Int32)), .val (.long nt), .second, .val (.long (own_mn (own_mn da db) dc)), .second, .unset, .unset, .unset, .unset, .unset, .unset, .unset, .unset]) rfl ?_
            refine Go.lload C at_266 rfl rfl ?_
            refine Go.lload C at_268 rfl rfl ?_
            refine Go.callS C (y := yN19) (as := [(.long da), (.long db)]) (rest := []) (wd hw 118 rfl) (wd hw 119 rfl) (wd hw 3 rfl) (wd hw 120 rfl) (m_minJ l Z a0 hw _) rfl at_270 (q := 273) rfl (by decide) rfl (na := 2) (by decide +kernel) rfl (by decide) (W := 0) rfl (by decide) (by decide) (by decide) (k' := 140) (n' := 3140) rfl rfl ?_
            rintro _ _ ⟨rfl, hMq⟩
            rw [hMq]
            show Go _ _ _ _ _ _ _ _ _ _ [(.long (own_mn da db))]
            refine Go.lload C at_273 rfl rfl ?_
            refine Go.lload C at_275 rfl rfl ?_
            refine Go.callS C (y := yN1) (as := [(.long da), (.long db)]) (rest := [(.long (own_mn da db))]) (wd hw 1 rfl) (wd hw 2 rfl) (wd hw 3 rfl) (wd hw 4 rfl) (m_maxJ l Z a0 hw _) rfl at_277 (q := 280) rfl (by decide) rfl (na := 2) (by decide +kernel) rfl (by decide) (W := 2) rfl (by decide) (by decide) (by decide) (k' := 140) (n' := 3140) rfl rfl ?_
            rintro _ _ ⟨rfl, hMq⟩
            rw [hMq]
            show Go _ _ _ _ _ _ _ _ _ _ [(.long (own_mx da db)), (.long (own_mn da db))]
            refine Go.lload C at_280 rfl rfl ?_
            refine Go.callS C (y := yN19) (as := [(.long (own_mx da db)), (.long dc)]) (rest := [(.long (own_mn da db))]) (wd hw 118 rfl) (wd hw 119 rfl) (wd hw 3 rfl) (wd hw 120 rfl) (m_minJ l Z a0 hw _) rfl at_282 (q := 285) rfl (by decide) rfl (na := 2) (by decide +kernel) rfl (by decide) (W := 2) rfl (by decide) (by decide) (by decide) (k' := 140) (n' := 3140) rfl rfl ?_
            rintro _ _ ⟨rfl, hMq⟩
            rw [hMq]
            show Go _ _ _ _ _ _ _ _ _ _ [(.long (own_mn (own_mx da db) dc)), (.long (own_mn da db))]
            refine Go.callS C (y := yN1) (as := [(.long (own_mn da db)), (.long (own_mn (own_mx da db) dc))]) (rest := []) (wd hw 1 rfl) (wd hw 2 rfl) (wd hw 3 rfl) (wd hw 4 rfl) (m_maxJ l Z a0 hw _) rfl at_285 (q := 288) rfl (by decide) rfl (na := 2) (by decide +kernel) rfl (by decide) (W := 0) rfl (by decide) (by decide) (by decide) (k' := 140) (n' := 3140) rfl rfl ?_
            rintro _ _ ⟨rfl, hMq⟩
            rw [hMq]
            show Go _ _ _ _ _ _ _ _ _ _ [(.long (own_mx (own_mn da db) (own_mn (own_mx da db) dc)))]
            refine Go.lstore C at_288 rfl (Ls' := #[.val (.int s0), .val (.long p0), .second, .val (.long x0), .second, .val (.long y0), .second, .val (.long z0), .second, .val (.long q0), .second, .val (.int (Int32.ofNat sN)), .val (.int (0 : Int32)), .val (.int (1 : Int32)), .val (.long last), .second, .val (.long da), .second, .val (.long db), .second, .val (.long dc), .second, .val (.long tg), .second, .val (.ref t0), .val (.ref t1), .val (.ref t2), .val (.ref w), .val (.int (1 : Int32)), .val (.long nt), .second, .val (.long (own_mn (own_mn da db) dc)), .second, .val (.long (own_mx (own_mn da db) (own_mn (own_mx da db) dc))), .second, .unset, .unset, .unset, .unset, .unset, .unset]) rfl ?_
            refine Go.iload C at_290 rfl rfl ?_
            refine Go.ifYes C at_292 (by decide) (q := 305) rfl (XT.i0_ne_t (by decide)) ?_
            refine Go.lload C at_305 rfl rfl ?_
            refine Go.lload C at_307 rfl rfl ?_
            refine Go.lcmp C at_309 rfl ?_
            refine Go.ifNo C at_310 (q := 313) rfl (XT.ll_gt_f (by rw [Int64.lt_iff_toInt_lt, htg, (own_mnI (own_mnI hda hdb) hdc)]; have f0 : NB ≤ NA := hxm 0 (hxo 0 (by decide) (by decide) (by decide)); have f2 : NB ≤ NC := hxm 2 (hxo 2 (by decide) (by decide) (by decide)); have fg : NB ≤ NG := hxg; omega)) ?_
            refine Go.lload C at_313 rfl rfl ?_
            refine Go.lstore C at_315 rfl (Ls' := #[.val (.int s0), .val (.long p0), .second, .val (.long x0), .second, .val (.long y0), .second, .val (.long z0), .second, .val (.long q0), .second, .val (.int (Int32.ofNat sN)), .val (.int (0 : Int32)), .val (.int (1 : Int32)), .val (.long last), .second, .val (.long da), .second, .val (.long db), .second, .val (.long dc), .second, .val (.long tg), .second, .val (.ref t0), .val (.ref t1), .val (.ref t2), .val (.ref w), .val (.int (1 : Int32)), .val (.long nt), .second, .val (.long (own_mn (own_mn da db) dc)), .second, .val (.long (own_mx (own_mn da db) (own_mn (own_mx da db) dc))), .second, .val (.long (own_mn (own_mn da db) dc)), .second, .unset, .unset, .unset, .unset]) rfl ?_
            refine Go.lload C at_317 rfl rfl ?_
            refine Go.lstore C at_319 rfl (Ls' := #[.val (.int s0), .val (.long p0), .second, .val (.long x0), .second, .val (.long y0), .second, .val (.long z0), .second, .val (.long q0), .second, .val (.int (Int32.ofNat sN)), .val (.int (0 : Int32)), .val (.int (1 : Int32)), .val (.long last), .second, .val (.long da), .second, .val (.long db), .second, .val (.long dc), .second, .val (.long tg), .second, .val (.ref t0), .val (.ref t1), .val (.ref t2), .val (.ref w), .val (.int (1 : Int32)), .val (.long nt), .second, .val (.long (own_mn (own_mn da db) dc)), .second, .val (.long (own_mx (own_mn da db) (own_mn (own_mx da db) dc))), .second, .val (.long (own_mn (own_mn da db) dc)), .second, .val (.long (own_mx (own_mn da db) (own_mn (own_mx da db) dc))), .second, .unset, .unset]) rfl ?_
            refine Go.goto C at_321 (by decide) (q := 332) rfl ?_
            refine Go.lload C at_332 rfl rfl ?_
            refine Go.lload C at_334 rfl rfl ?_
            refine Go.iload C at_336 rfl rfl ?_
            refine Go.callS C (y := yN20) (as := [(.long (own_mn (own_mn da db) dc)), (.long (own_mx (own_mn da db) (own_mn (own_mx da db) dc))), (.int (Int32.ofNat sN))]) (rest := []) (wd hw 121 rfl) (wd hw 122 rfl) (wd hw 123 rfl) (wd hw 124 rfl) (m_ev l Z a0 hw _ (t := (min (min NA NB) NC)) (d := (max (min NA NB) (min (max NA NB) NC))) (own_mxI (own_mnI hda hdb) (own_mnI (own_mxI hda hdb) hdc)) (own_mnI (own_mnI hda hdb) hdc) hs1 hs8 (own_xorI (own_mxI (own_mnI hda hdb) (own_mnI (own_mxI hda hdb) hdc)) (own_mnI (own_mnI hda hdb) hdc))) rfl at_338 (q := 341) rfl (by decide) rfl (na := 3) (by decide +kernel) rfl (by decide) (W := 0) rfl (by decide) (by decide) (by decide) (k' := 140) (n' := 3140) rfl rfl ?_
            rintro _ _ ⟨⟨ve, rfl, hve⟩, hMq⟩
            rw [hMq]
            show Go _ _ _ _ _ _ _ _ _ _ [(.long ve)]
            refine Go.lstore C at_341 rfl (Ls' := #[.val (.int s0), .val (.long p0), .second, .val (.long x0), .second, .val (.long y0), .second, .val (.long z0), .second, .val (.long q0), .second, .val (.int (Int32.ofNat sN)), .val (.int (0 : Int32)), .val (.int (1 : Int32)), .val (.long last), .second, .val (.long da), .second, .val (.long db), .second, .val (.long dc), .second, .val (.long tg), .second, .val (.ref t0), .val (.ref t1), .val (.ref t2), .val (.ref w), .val (.int (1 : Int32)), .val (.long nt), .second, .val (.long (own_mn (own_mn da db) dc)), .second, .val (.long (own_mx (own_mn da db) (own_mn (own_mx da db) dc))), .second, .val (.long (own_mn (own_mn da db) dc)), .second, .val (.long (own_mx (own_mn da db) (own_mn (own_mx da db) dc))), .second, .val (.long ve), .second]) rfl ?_
            refine Go.iload C at_343 rfl rfl ?_
            refine Go.ifNo C at_345 (q := 348) rfl (XT.i0_eq_f (by decide)) ?_
            refine Go.lload C at_348 rfl rfl ?_
            refine Go.lload C at_350 rfl rfl ?_
            refine Go.lcmp C at_352 rfl ?_
            refine Go.ifNo C at_353 (q := 356) rfl (XT.ll_ne_f (Int64.toInt_inj.mp (by rw [hnt, hve, show (min (min NA NB) NC) = (own_n3 NA NB NC 1) from (show (min (min NA NB) NC) = NB from by have f0 : NB ≤ NA := hxm 0 (hxo 0 (by decide) (by decide) (by decide)); have f2 : NB ≤ NC := hxm 2 (hxo 2 (by decide) (by decide) (by decide)); have fg : NB ≤ NG := hxg; omega), show (max (min NA NB) (min (max NA NB) NC)) = (min NA NC) from (by have f0 : NB ≤ NA := hxm 0 (hxo 0 (by decide) (by decide) (by decide)); have f2 : NB ≤ NC := hxm 2 (hxo 2 (by decide) (by decide) (by decide)); have fg : NB ≤ NG := hxg; omega)]))) ?_
            refine Go.iconst C at_356 rfl (v := (1 : Int32)) rfl ?_
            refine Go.goto C at_357 (by decide) (q := 361) rfl ?_
            refine Go.retZ C rfl (by decide) at_361 (by decide) (by decide) ?_
            exact rfl
          · skip
            refine Go.aload C at_219 rfl rfl rfl ?_
            refine Go.callV C (y := yN7) (z := yN7) (a := w) (as := []) (rest := []) (wd hw 55 rfl) (wd hw 56 rfl) (nf_sel (z := yN7) (wd hw 58 rfl)) (wd hw 58 rfl) (wd hw 57 rfl) (wd hw 59 rfl) (wd hw 20 rfl) (fun _ r => r.exa 3 rfl) (m_neN l Z a0 hw (D := (own_upd (own_upd (own_upd (fun _ => (0 : Int64)) 0 (own_mx da ((0 : Int64) + (1 : Int64)))) 1 (own_mx db ((0 : Int64) + (1 : Int64)))) 2 (own_mx dc ((0 : Int64) + (1 : Int64))))) (s := (fun _ => (0 : Int32))) (p := p4) (nx := nx4) (t := (own_n3 NA NB NC 2)) (m := (min NA NB)) hZ hG hDD hI4 hx1 hxm (own_m01 (hxo 0 (by decide) (by decide) (by decide)) (hxo 1 (by decide) (by decide) (by decide))) (fun i hi => own_l01 (InvK.lt3 hI4 (List.mem_append_left _ hi)) (fun e => hxn (e ▸ hi)))) rfl at_221 (q := 224) rfl (by decide) rfl (na := 0) (by decide +kernel) rfl (by decide) (W := 0) rfl (by decide) (by decide) (by decide) (k' := 140) (n' := 3140) rfl rfl ?_
            rintro _ Mz ⟨nt, rfl, hnt⟩
            show Go _ _ _ _ _ _ _ _ _ _ [(.long nt)]
            refine Go.lstore C at_224 rfl (Ls' := #[.val (.int s0), .val (.long p0), .second, .val (.long x0), .second, .val (.long y0), .second, .val (.long z0), .second, .val (.long q0), .second, .val (.int (Int32.ofNat sN)), .val (.int (0 : Int32)), .val (.int (1 : Int32)), .val (.long last), .second, .val (.long da), .second, .val (.long db), .second, .val (.long dc), .second, .val (.long tg), .second, .val (.ref t0), .val (.ref t1), .val (.ref t2), .val (.ref w), .val (.int (1 : Int32)), .val (.long nt), .second, .unset, .unset, .unset, .unset, .unset, .unset, .unset, .unset, .unset, .unset]) rfl ?_
            refine Go.iload C at_226 rfl rfl ?_
            refine Go.ifYes C at_228 (by decide) (q := 252) rfl (XT.i0_eq_t (by decide)) ?_
            refine Go.lload C at_252 rfl rfl ?_
            refine Go.lload C at_254 rfl rfl ?_
            refine Go.callS C (y := yN19) (as := [(.long da), (.long db)]) (rest := []) (wd hw 118 rfl) (wd hw 119 rfl) (wd hw 3 rfl) (wd hw 120 rfl) (m_minJ l Z a0 hw _) rfl at_256 (q := 259) rfl (by decide) rfl (na := 2) (by decide +kernel) rfl (by decide) (W := 0) rfl (by decide) (by decide) (by decide) (k' := 140) (n' := 3140) rfl rfl ?_
            rintro _ _ ⟨rfl, hMq⟩
            rw [hMq]
            show Go _ _ _ _ _ _ _ _ _ _ [(.long (own_mn da db))]
            refine Go.lload C at_259 rfl rfl ?_
            refine Go.callS C (y := yN19) (as := [(.long (own_mn da db)), (.long dc)]) (rest := []) (wd hw 118 rfl) (wd hw 119 rfl) (wd hw 3 rfl) (wd hw 120 rfl) (m_minJ l Z a0 hw _) rfl at_261 (q := 264) rfl (by decide) rfl (na := 2) (by decide +kernel) rfl (by decide) (W := 0) rfl (by decide) (by decide) (by decide) (k' := 140) (n' := 3140) rfl rfl ?_
            rintro _ _ ⟨rfl, hMq⟩
            rw [hMq]
            show Go _ _ _ _ _ _ _ _ _ _ [(.long (own_mn (own_mn da db) dc))]
            refine Go.lstore C at_264 rfl (Ls' := #[.val (.int s0), .val (.long p0), .second, .val (.long x0), .second, .val (.long y0), .second, .val (.long z0), .second, .val (.long q0), .second, .val (.int (Int32.ofNat sN)), .val (.int (0 : Int32)), .val (.int (1 : Int32)), .val (.long last), .second, .val (.long da), .second, .val (.long db), .second, .val (.long dc), .second, .val (.long tg), .second, .val (.ref t0), .val (.ref t1), .val (.ref t2), .val (.ref w), .val (.int (1 : Int32)), .val (.long nt), .second, .val (.long (own_mn (own_mn da db) dc)), .second, .unset, .unset, .unset, .unset, .unset, .unset, .unset, .unset]) rfl ?_
            refine Go.lload C at_266 rfl rfl ?_
            refine Go.lload C at_268 rfl rfl ?_
            refine Go.callS C (y := yN19) (as := [(.long da), (.long db)]) (rest := []) (wd hw 118 rfl) (wd hw 119 rfl) (wd hw 3 rfl) (wd hw 120 rfl) (m_minJ l Z a0 hw _) rfl at_270 (q := 273) rfl (by decide) rfl (na := 2) (by decide +kernel) rfl (by decide) (W := 0) rfl (by decide) (by decide) (by decide) (k' := 140) (n' := 3140) rfl rfl ?_
            rintro _ _ ⟨rfl, hMq⟩
            rw [hMq]
            show Go _ _ _ _ _ _ _ _ _ _ [(.long (own_mn da db))]
            refine Go.lload C at_273 rfl rfl ?_
            refine Go.lload C at_275 rfl rfl ?_
            refine Go.callS C (y := yN1) (as := [(.long da), (.long db)]) (rest := [(.long (own_mn da db))]) (wd hw 1 rfl) (wd hw 2 rfl) (wd hw 3 rfl) (wd hw 4 rfl) (m_maxJ l Z a0 hw _) rfl at_277 (q := 280) rfl (by decide) rfl (na := 2) (by decide +kernel) rfl (by decide) (W := 2) rfl (by decide) (by decide) (by decide) (k' := 140) (n' := 3140) rfl rfl ?_
            rintro _ _ ⟨rfl, hMq⟩
            rw [hMq]
            show Go _ _ _ _ _ _ _ _ _ _ [(.long (own_mx da db)), (.long (own_mn da db))]
            refine Go.lload C at_280 rfl rfl ?_
            refine Go.callS C (y := yN19) (as := [(.long (own_mx da db)), (.long dc)]) (rest := [(.long (own_mn da db))]) (wd hw 118 rfl) (wd hw 119 rfl) (wd hw 3 rfl) (wd hw 120 rfl) (m_minJ l Z a0 hw _) rfl at_282 (q := 285) rfl (by decide) rfl (na := 2) (by decide +kernel) rfl (by decide) (W := 2) rfl (by decide) (by decide) (by decide) (k' := 140) (n' := 3140) rfl rfl ?_
            rintro _ _ ⟨rfl, hMq⟩
            rw [hMq]
            show Go _ _ _ _ _ _ _ _ _ _ [(.long (own_mn (own_mx da db) dc)), (.long (own_mn da db))]
            refine Go.callS C (y := yN1) (as := [(.long (own_mn da db)), (.long (own_mn (own_mx da db) dc))]) (rest := []) (wd hw 1 rfl) (wd hw 2 rfl) (wd hw 3 rfl) (wd hw 4 rfl) (m_maxJ l Z a0 hw _) rfl at_285 (q := 288) rfl (by decide) rfl (na := 2) (by decide +kernel) rfl (by decide) (W := 0) rfl (by decide) (by decide) (by decide) (k' := 140) (n' := 3140) rfl rfl ?_
            rintro _ _ ⟨rfl, hMq⟩
            rw [hMq]
            show Go _ _ _ _ _ _ _ _ _ _ [(.long (own_mx (own_mn da db) (own_mn (own_mx da db) dc)))]
            refine Go.lstore C at_288 rfl (Ls' := #[.val (.int s0), .val (.long p0), .second, .val (.long x0), .second, .val (.long y0), .second, .val (.long z0), .second, .val (.long q0), .second, .val (.int (Int32.ofNat sN)), .val (.int (0 : Int32)), .val (.int (1 : Int32)), .val (.long last), .second, .val (.long da), .second, .val (.long db), .second, .val (.long dc), .second, .val (.long tg), .second, .val (.ref t0), .val (.ref t1), .val (.ref t2), .val (.ref w), .val (.int (1 : Int32)), .val (.long nt), .second, .val (.long (own_mn (own_mn da db) dc)), .second, .val (.long (own_mx (own_mn da db) (own_mn (own_mx da db) dc))), .second, .unset, .unset, .unset, .unset, .unset, .unset]) rfl ?_
            refine Go.iload C at_290 rfl rfl ?_
            refine Go.ifYes C at_292 (by decide) (q := 305) rfl (XT.i0_ne_t (by decide)) ?_
            refine Go.lload C at_305 rfl rfl ?_
            refine Go.lload C at_307 rfl rfl ?_
            refine Go.lcmp C at_309 rfl ?_
            refine Go.ifNo C at_310 (q := 313) rfl (XT.ll_gt_f (by rw [Int64.lt_iff_toInt_lt, htg, (own_mnI (own_mnI hda hdb) hdc)]; have f0 : NC ≤ NA := hxm 0 (hxo 0 (by decide) (by decide) (by decide)); have f1 : NC ≤ NB := hxm 1 (hxo 1 (by decide) (by decide) (by decide)); have fg : NC ≤ NG := hxg; omega)) ?_
            refine Go.lload C at_313 rfl rfl ?_
            refine Go.lstore C at_315 rfl (Ls' := #[.val (.int s0), .val (.long p0), .second, .val (.long x0), .second, .val (.long y0), .second, .val (.long z0), .second, .val (.long q0), .second, .val (.int (Int32.ofNat sN)), .val (.int (0 : Int32)), .val (.int (1 : Int32)), .val (.long last), .second, .val (.long da), .second, .val (.long db), .second, .val (.long dc), .second, .val (.long tg), .second, .val (.ref t0), .val (.ref t1), .val (.ref t2), .val (.ref w), .val (.int (1 : Int32)), .val (.long nt), .second, .val (.long (own_mn (own_mn da db) dc)), .second, .val (.long (own_mx (own_mn da db) (own_mn (own_mx da db) dc))), .second, .val (.long (own_mn (own_mn da db) dc)), .second, .unset, .unset, .unset, .unset]) rfl ?_
            refine Go.lload C at_317 rfl rfl ?_
            refine Go.lstore C at_319 rfl (Ls' := #[.val (.int s0), .val (.long p0), .second, .val (.long x0), .second, .val (.long y0), .second, .val (.long z0), .second, .val (.long q0), .second, .val (.int (Int32.ofNat sN)), .val (.int (0 : Int32)), .val (.int (1 : Int32)), .val (.long last), .second, .val (.long da), .second, .val (.long db), .second, .val (.long dc), .second, .val (.long tg), .second, .val (.ref t0), .val (.ref t1), .val (.ref t2), .val (.ref w), .val (.int (1 : Int32)), .val (.long nt), .second, .val (.long (own_mn (own_mn da db) dc)), .second, .val (.long (own_mx (own_mn da db) (own_mn (own_mx da db) dc))), .second, .val (.long (own_mn (own_mn da db) dc)), .second, .val (.long (own_mx (own_mn da db) (own_mn (own_mx da db) dc))), .second, .unset, .unset]) rfl ?_
            refine Go.goto C at_321 (by decide) (q := 332) rfl ?_
            refine Go.lload C at_332 rfl rfl ?_
            refine Go.lload C at_334 rfl rfl ?_
            refine Go.iload C at_336 rfl rfl ?_
            refine Go.callS C (y := yN20) (as := [(.long (own_mn (own_mn da db) dc)), (.long (own_mx (own_mn da db) (own_mn (own_mx da db) dc))), (.int (Int32.ofNat sN))]) (rest := []) (wd hw 121 rfl) (wd hw 122 rfl) (wd hw 123 rfl) (wd hw 124 rfl) (m_ev l Z a0 hw _ (t := (min (min NA NB) NC)) (d := (max (min NA NB) (min (max NA NB) NC))) (own_mxI (own_mnI hda hdb) (own_mnI (own_mxI hda hdb) hdc)) (own_mnI (own_mnI hda hdb) hdc) hs1 hs8 (own_xorI (own_mxI (own_mnI hda hdb) (own_mnI (own_mxI hda hdb) hdc)) (own_mnI (own_mnI hda hdb) hdc))) rfl at_338 (q := 341) rfl (by decide) rfl (na := 3) (by decide +kernel) rfl (by decide) (W := 0) rfl (by decide) (by decide) (by decide) (k' := 140) (n' := 3140) rfl rfl ?_
            rintro _ _ ⟨⟨ve, rfl, hve⟩, hMq⟩
            rw [hMq]
            show Go _ _ _ _ _ _ _ _ _ _ [(.long ve)]
            refine Go.lstore C at_341 rfl (Ls' := #[.val (.int s0), .val (.long p0), .second, .val (.long x0), .second, .val (.long y0), .second, .val (.long z0), .second, .val (.long q0), .second, .val (.int (Int32.ofNat sN)), .val (.int (0 : Int32)), .val (.int (1 : Int32)), .val (.long last), .second, .val (.long da), .second, .val (.long db), .second, .val (.long dc), .second, .val (.long tg), .second, .val (.ref t0), .val (.ref t1), .val (.ref t2), .val (.ref w), .val (.int (1 : Int32)), .val (.long nt), .second, .val (.long (own_mn (own_mn da db) dc)), .second, .val (.long (own_mx (own_mn da db) (own_mn (own_mx da db) dc))), .second, .val (.long (own_mn (own_mn da db) dc)), .second, .val (.long (own_mx (own_mn da db) (own_mn (own_mx da db) dc))), .second, .val (.long ve), .second]) rfl ?_
            refine Go.iload C at_343 rfl rfl ?_
            refine Go.ifNo C at_345 (q := 348) rfl (XT.i0_eq_f (by decide)) ?_
            refine Go.lload C at_348 rfl rfl ?_
            refine Go.lload C at_350 rfl rfl ?_
            refine Go.lcmp C at_352 rfl ?_
            refine Go.ifNo C at_353 (q := 356) rfl (XT.ll_ne_f (Int64.toInt_inj.mp (by rw [hnt, hve, show (min (min NA NB) NC) = (own_n3 NA NB NC 2) from (show (min (min NA NB) NC) = NC from by have f0 : NC ≤ NA := hxm 0 (hxo 0 (by decide) (by decide) (by decide)); have f1 : NC ≤ NB := hxm 1 (hxo 1 (by decide) (by decide) (by decide)); have fg : NC ≤ NG := hxg; omega), show (max (min NA NB) (min (max NA NB) NC)) = (min NA NB) from (by have f0 : NC ≤ NA := hxm 0 (hxo 0 (by decide) (by decide) (by decide)); have f1 : NC ≤ NB := hxm 1 (hxo 1 (by decide) (by decide) (by decide)); have fg : NC ≤ NG := hxg; omega)]))) ?_
            refine Go.iconst C at_356 rfl (v := (1 : Int32)) rfl ?_
            refine Go.goto C at_357 (by decide) (q := 361) rfl ?_
            refine Go.retZ C rfl (by decide) at_361 (by decide) (by decide) ?_
            exact rfl
      · refine Go.iload C at_188 rfl rfl ?_
        refine Go.ifNo C at_190 (q := 193) rfl (XT.i0_eq_f (by decide)) ?_
        refine Go.aload C at_193 rfl rfl rfl ?_
        refine Go.aload C at_195 rfl rfl rfl ?_
        refine Go.pick (M' := (tE t1 .null .null ((own_upd (own_upd (own_upd (fun _ => (0 : Int64)) 0 (own_mx da ((0 : Int64) + (1 : Int64)))) 1 (own_mx db ((0 : Int64) + (1 : Int64)))) 2 (own_mx dc ((0 : Int64) + (1 : Int64)))) 1) (nx3 1) (p3 1) ((fun _ => (0 : Int32)) 1) :: wE w rA (Int32.ofNat sN) dm bt sA fA cA 0 0 :: aT rA (List.replicate (64 : Int32).toNatClampNeg .null) :: tE t0 .null .null ((own_upd (own_upd (own_upd (fun _ => (0 : Int64)) 0 (own_mx da ((0 : Int64) + (1 : Int64)))) 1 (own_mx db ((0 : Int64) + (1 : Int64)))) 2 (own_mx dc ((0 : Int64) + (1 : Int64)))) 0) (nx3 0) (p3 0) ((fun _ => (0 : Int32)) 0) :: tE t2 .null .null ((own_upd (own_upd (own_upd (fun _ => (0 : Int64)) 0 (own_mx da ((0 : Int64) + (1 : Int64)))) 1 (own_mx db ((0 : Int64) + (1 : Int64)))) 2 (own_mx dc ((0 : Int64) + (1 : Int64)))) 2) (nx3 2) (p3 2) ((fun _ => (0 : Int32)) 2) :: aS sA vs3 :: aF fA fs3 :: aI cA cs3 :: LS3)) 8 [1, 3, 7, 0, 2, 4, 5, 6] (by decide) (by decide) rfl ?_
        refine Go.callV C (y := yN22) (z := yN22) (a := w) (as := [(.ref t1)]) (rest := []) (wd hw 128 rfl) (wd hw 129 rfl) (nf_sel (z := yN22) (wd hw 131 rfl)) (wd hw 131 rfl) (wd hw 130 rfl) (wd hw 132 rfl) (wd hw 20 rfl) (fun _ r => r.exa 1 rfl) (m_remove0 l Z a0 hw _ (own_repl (by decide))) rfl at_197 (q := 200) rfl (by decide) rfl (na := 1) (by decide +kernel) rfl (by decide) (W := 0) rfl (by decide) (by decide) (by decide) (k' := 14) (n' := 1060) rfl rfl ?_
        rintro _ _ ⟨rfl, rfl⟩
        show Go _ _ _ _ _ _ _ _ _ _ []
        refine Go.aload C at_200 rfl rfl rfl ?_
        refine Go.iconst C at_202 rfl (v := (1 : Int32)) rfl ?_
        refine Go.pf C (wd hw 133 rfl) Via.refl 0 5 rfl rfl (wd hw 134 rfl) (wd hw 6 rfl) (ty := .int) (by decide) rfl rfl at_203 rfl (M' := (tE t1 .null .null ((own_upd (own_upd (own_upd (fun _ => (0 : Int64)) 0 (own_mx da ((0 : Int64) + (1 : Int64)))) 1 (own_mx db ((0 : Int64) + (1 : Int64)))) 2 (own_mx dc ((0 : Int64) + (1 : Int64)))) 1) (nx3 1) (p3 1) 1 :: wE w rA (Int32.ofNat sN) dm bt sA fA cA 0 1 :: aT rA ((List.replicate (64 : Int32).toNatClampNeg .null).set (0 : Int32).toNatClampNeg (.ref t1)) :: tE t0 .null .null ((own_upd (own_upd (own_upd (fun _ => (0 : Int64)) 0 (own_mx da ((0 : Int64) + (1 : Int64)))) 1 (own_mx db ((0 : Int64) + (1 : Int64)))) 2 (own_mx dc ((0 : Int64) + (1 : Int64)))) 0) (nx3 0) (p3 0) ((fun _ => (0 : Int32)) 0) :: tE t2 .null .null ((own_upd (own_upd (own_upd (fun _ => (0 : Int64)) 0 (own_mx da ((0 : Int64) + (1 : Int64)))) 1 (own_mx db ((0 : Int64) + (1 : Int64)))) 2 (own_mx dc ((0 : Int64) + (1 : Int64)))) 2) (nx3 2) (p3 2) ((fun _ => (0 : Int32)) 2) :: aS sA vs3 :: aF fA fs3 :: aI cA cs3 :: LS3)) rfl ?_
        refine Go.iload C at_206 rfl rfl ?_
        refine Go.ifYes C at_208 (by decide) (q := 219) rfl (XT.i0_eq_t (by decide)) ?_
        obtain ⟨hpn, hpr⟩ := own_prev (i := 1) (InvK.inv hI3) (hY.trans (show [2, 1, 0].Perm [1, 0, 2] from by decide))
        refine Go.aload C at_219 rfl rfl rfl ?_
        refine Go.pick (M' := (tE t0 .null .null ((own_upd (own_upd (own_upd (fun _ => (0 : Int64)) 0 (own_mx da ((0 : Int64) + (1 : Int64)))) 1 (own_mx db ((0 : Int64) + (1 : Int64)))) 2 (own_mx dc ((0 : Int64) + (1 : Int64)))) 0) (nx3 0) (p3 0) ((fun _ => (0 : Int32)) 0) :: tE t1 .null .null ((own_upd (own_upd (own_upd (fun _ => (0 : Int64)) 0 (own_mx da ((0 : Int64) + (1 : Int64)))) 1 (own_mx db ((0 : Int64) + (1 : Int64)))) 2 (own_mx dc ((0 : Int64) + (1 : Int64)))) 1) (nx3 1) (p3 1) 1 :: tE t2 .null .null ((own_upd (own_upd (own_upd (fun _ => (0 : Int64)) 0 (own_mx da ((0 : Int64) + (1 : Int64)))) 1 (own_mx db ((0 : Int64) + (1 : Int64)))) 2 (own_mx dc ((0 : Int64) + (1 : Int64)))) 2) (nx3 2) (p3 2) ((fun _ => (0 : Int32)) 2) :: wE w rA (Int32.ofNat sN) dm bt sA fA cA 0 1 :: aS sA vs3 :: aF fA fs3 :: aI cA cs3 :: aT rA ((List.replicate (64 : Int32).toNatClampNeg .null).set (0 : Int32).toNatClampNeg (.ref t1)) :: LS3)) 8 [3, 0, 4, 1, 5, 6, 7, 2] (by decide) (by decide) rfl ?_
        refine Go.callV C (y := yN7) (z := yN7) (a := w) (as := []) (rest := []) (wd hw 55 rfl) (wd hw 56 rfl) (nf_sel (z := yN7) (wd hw 58 rfl)) (wd hw 58 rfl) (wd hw 57 rfl) (wd hw 59 rfl) (wd hw 20 rfl) (fun _ r => r.exa 3 rfl) (m_neF l Z a0 hw (D := (own_upd (own_upd (own_upd (fun _ => (0 : Int64)) 0 (own_mx da ((0 : Int64) + (1 : Int64)))) 1 (own_mx db ((0 : Int64) + (1 : Int64)))) 2 (own_mx dc ((0 : Int64) + (1 : Int64))))) (s := (own_upd (fun _ => (0 : Int32)) 1 1)) (p := p3) (nx := nx3) (t := 0) (m := (min NA NC)) hZ hG hDD hI3 rfl (hY.trans (show [2, 1, 0].Perm [1, 0, 2] from by decide)) hT (own_sets (own_repl (by decide))) hpn hpr (fun _ _ => Nat.zero_le _) (own_m02 (by decide) (by decide)) (fun i hi => own_l02 (by intro e; subst e; revert hi; decide))) rfl at_221 (q := 224) rfl (by decide) rfl (na := 0) (by decide +kernel) rfl (by decide) (W := 0) rfl (by decide) (by decide) (by decide) (k' := 14) (n' := 1060) rfl rfl ?_
        rintro _ Mz ⟨nt, rfl, hnt⟩
        show Go _ _ _ _ _ _ _ _ _ _ [(.long nt)]
        refine Go.lstore C at_224 rfl (Ls' := #[.val (.int s0), .val (.long p0), .second, .val (.long x0), .second, .val (.long y0), .second, .val (.long z0), .second, .val (.long q0), .second, .val (.int (Int32.ofNat sN)), .val (.int (1 : Int32)), .val (.int (0 : Int32)), .val (.long last), .second, .val (.long da), .second, .val (.long db), .second, .val (.long dc), .second, .val (.long tg), .second, .val (.ref t0), .val (.ref t1), .val (.ref t2), .val (.ref w), .val (.int (1 : Int32)), .val (.long nt), .second, .unset, .unset, .unset, .unset, .unset, .unset, .unset, .unset, .unset, .unset]) rfl ?_
        refine Go.iload C at_226 rfl rfl ?_
        refine Go.ifNo C at_228 (q := 231) rfl (XT.i0_eq_f (by decide)) ?_
        refine Go.lload C at_231 rfl rfl ?_
        refine Go.lload C at_233 rfl rfl ?_
        refine Go.callS C (y := yN19) (as := [(.long da), (.long dc)]) (rest := []) (wd hw 118 rfl) (wd hw 119 rfl) (wd hw 3 rfl) (wd hw 120 rfl) (m_minJ l Z a0 hw _) rfl at_235 (q := 238) rfl (by decide) rfl (na := 2) (by decide +kernel) rfl (by decide) (W := 0) rfl (by decide) (by decide) (by decide) (k' := 14) (n' := 1060) rfl rfl ?_
        rintro _ _ ⟨rfl, hMq⟩
        rw [hMq]
        show Go _ _ _ _ _ _ _ _ _ _ [(.long (own_mn da dc))]
        refine Go.lstore C at_238 rfl (Ls' := #[.val (.int s0), .val (.long p0), .second, .val (.long x0), .second, .val (.long y0), .second, .val (.long z0), .second, .val (.long q0), .second, .val (.int (Int32.ofNat sN)), .val (.int (1 : Int32)), .val (.int (0 : Int32)), .val (.long last), .second, .val (.long da), .second, .val (.long db), .second, .val (.long dc), .second, .val (.long tg), .second, .val (.ref t0), .val (.ref t1), .val (.ref t2), .val (.ref w), .val (.int (1 : Int32)), .val (.long nt), .second, .val (.long (own_mn da dc)), .second, .unset, .unset, .unset, .unset, .unset, .unset, .unset, .unset]) rfl ?_
        refine Go.lload C at_240 rfl rfl ?_
        refine Go.lload C at_242 rfl rfl ?_
        refine Go.callS C (y := yN1) (as := [(.long da), (.long dc)]) (rest := []) (wd hw 1 rfl) (wd hw 2 rfl) (wd hw 3 rfl) (wd hw 4 rfl) (m_maxJ l Z a0 hw _) rfl at_244 (q := 247) rfl (by decide) rfl (na := 2) (by decide +kernel) rfl (by decide) (W := 0) rfl (by decide) (by decide) (by decide) (k' := 14) (n' := 1060) rfl rfl ?_
        rintro _ _ ⟨rfl, hMq⟩
        rw [hMq]
        show Go _ _ _ _ _ _ _ _ _ _ [(.long (own_mx da dc))]
        refine Go.lstore C at_247 rfl (Ls' := #[.val (.int s0), .val (.long p0), .second, .val (.long x0), .second, .val (.long y0), .second, .val (.long z0), .second, .val (.long q0), .second, .val (.int (Int32.ofNat sN)), .val (.int (1 : Int32)), .val (.int (0 : Int32)), .val (.long last), .second, .val (.long da), .second, .val (.long db), .second, .val (.long dc), .second, .val (.long tg), .second, .val (.ref t0), .val (.ref t1), .val (.ref t2), .val (.ref w), .val (.int (1 : Int32)), .val (.long nt), .second, .val (.long (own_mn da dc)), .second, .val (.long (own_mx da dc)), .second, .unset, .unset, .unset, .unset, .unset, .unset]) rfl ?_
        refine Go.goto C at_249 (by decide) (q := 290) rfl ?_
        refine Go.iload C at_290 rfl rfl ?_
        refine Go.ifNo C at_292 (q := 295) rfl (XT.i0_ne_f (by decide)) ?_
        refine Go.lconst C at_295 rfl (v := (0 : Int64)) rfl ?_
        refine Go.lstore C at_296 rfl (Ls' := #[.val (.int s0), .val (.long p0), .second, .val (.long x0), .second, .val (.long y0), .second, .val (.long z0), .second, .val (.long q0), .second, .val (.int (Int32.ofNat sN)), .val (.int (1 : Int32)), .val (.int (0 : Int32)), .val (.long last), .second, .val (.long da), .second, .val (.long db), .second, .val (.long dc), .second, .val (.long tg), .second, .val (.ref t0), .val (.ref t1), .val (.ref t2), .val (.ref w), .val (.int (1 : Int32)), .val (.long nt), .second, .val (.long (own_mn da dc)), .second, .val (.long (own_mx da dc)), .second, .val (.long (0 : Int64)), .second, .unset, .unset, .unset, .unset]) rfl ?_
        refine Go.lload C at_298 rfl rfl ?_
        refine Go.lstore C at_300 rfl (Ls' := #[.val (.int s0), .val (.long p0), .second, .val (.long x0), .second, .val (.long y0), .second, .val (.long z0), .second, .val (.long q0), .second, .val (.int (Int32.ofNat sN)), .val (.int (1 : Int32)), .val (.int (0 : Int32)), .val (.long last), .second, .val (.long da), .second, .val (.long db), .second, .val (.long dc), .second, .val (.long tg), .second, .val (.ref t0), .val (.ref t1), .val (.ref t2), .val (.ref w), .val (.int (1 : Int32)), .val (.long nt), .second, .val (.long (own_mn da dc)), .second, .val (.long (own_mx da dc)), .second, .val (.long (0 : Int64)), .second, .val (.long (own_mn da dc)), .second, .unset, .unset]) rfl ?_
        refine Go.goto C at_302 (by decide) (q := 332) rfl ?_
        refine Go.lload C at_332 rfl rfl ?_
        refine Go.lload C at_334 rfl rfl ?_
        refine Go.iload C at_336 rfl rfl ?_
        refine Go.callS C (y := yN20) (as := [(.long (0 : Int64)), (.long (own_mn da dc)), (.int (Int32.ofNat sN))]) (rest := []) (wd hw 121 rfl) (wd hw 122 rfl) (wd hw 123 rfl) (wd hw 124 rfl) (m_ev l Z a0 hw _ (t := 0) (d := (min NA NC)) (own_mnI hda hdc) rfl hs1 hs8 (own_xorI (own_mnI hda hdc) rfl)) rfl at_338 (q := 341) rfl (by decide) rfl (na := 3) (by decide +kernel) rfl (by decide) (W := 0) rfl (by decide) (by decide) (by decide) (k' := 14) (n' := 1060) rfl rfl ?_
        rintro _ _ ⟨⟨ve, rfl, hve⟩, hMq⟩
        rw [hMq]
        show Go _ _ _ _ _ _ _ _ _ _ [(.long ve)]
        refine Go.lstore C at_341 rfl (Ls' := #[.val (.int s0), .val (.long p0), .second, .val (.long x0), .second, .val (.long y0), .second, .val (.long z0), .second, .val (.long q0), .second, .val (.int (Int32.ofNat sN)), .val (.int (1 : Int32)), .val (.int (0 : Int32)), .val (.long last), .second, .val (.long da), .second, .val (.long db), .second, .val (.long dc), .second, .val (.long tg), .second, .val (.ref t0), .val (.ref t1), .val (.ref t2), .val (.ref w), .val (.int (1 : Int32)), .val (.long nt), .second, .val (.long (own_mn da dc)), .second, .val (.long (own_mx da dc)), .second, .val (.long (0 : Int64)), .second, .val (.long (own_mn da dc)), .second, .val (.long ve), .second]) rfl ?_
        refine Go.iload C at_343 rfl rfl ?_
        refine Go.ifNo C at_345 (q := 348) rfl (XT.i0_eq_f (by decide)) ?_
        refine Go.lload C at_348 rfl rfl ?_
        refine Go.lload C at_350 rfl rfl ?_
        refine Go.lcmp C at_352 rfl ?_
        refine Go.ifNo C at_353 (q := 356) rfl (XT.ll_ne_f (Int64.toInt_inj.mp (by rw [hnt, hve, show 0 = 0 from (show 0 = 0 from by skip; omega), show (min NA NC) = (min NA NC) from (by skip; omega)]))) ?_
        refine Go.iconst C at_356 rfl (v := (1 : Int32)) rfl ?_
        refine Go.goto C at_357 (by decide) (q := 361) rfl ?_
        refine Go.retZ C rfl (by decide) at_361 (by decide) (by decide) ?_
        exact rfl
      · refine Go.iload C at_188 rfl rfl ?_
        refine Go.ifNo C at_190 (q := 193) rfl (XT.i0_eq_f (by decide)) ?_
        refine Go.aload C at_193 rfl rfl rfl ?_
        refine Go.aload C at_195 rfl rfl rfl ?_
        refine Go.pick (M' := (tE t1 .null .null ((own_upd (own_upd (own_upd (fun _ => (0 : Int64)) 0 (own_mx da ((0 : Int64) + (1 : Int64)))) 1 (own_mx db ((0 : Int64) + (1 : Int64)))) 2 (own_mx dc ((0 : Int64) + (1 : Int64)))) 1) (nx3 1) (p3 1) ((fun _ => (0 : Int32)) 1) :: wE w rA (Int32.ofNat sN) dm bt sA fA cA 0 0 :: aT rA (List.replicate (64 : Int32).toNatClampNeg .null) :: tE t0 .null .null ((own_upd (own_upd (own_upd (fun _ => (0 : Int64)) 0 (own_mx da ((0 : Int64) + (1 : Int64)))) 1 (own_mx db ((0 : Int64) + (1 : Int64)))) 2 (own_mx dc ((0 : Int64) + (1 : Int64)))) 0) (nx3 0) (p3 0) ((fun _ => (0 : Int32)) 0) :: tE t2 .null .null ((own_upd (own_upd (own_upd (fun _ => (0 : Int64)) 0 (own_mx da ((0 : Int64) + (1 : Int64)))) 1 (own_mx db ((0 : Int64) + (1 : Int64)))) 2 (own_mx dc ((0 : Int64) + (1 : Int64)))) 2) (nx3 2) (p3 2) ((fun _ => (0 : Int32)) 2) :: aS sA vs3 :: aF fA fs3 :: aI cA cs3 :: LS3)) 8 [1, 3, 7, 0, 2, 4, 5, 6] (by decide) (by decide) rfl ?_
        refine Go.callV C (y := yN22) (z := yN22) (a := w) (as := [(.ref t1)]) (rest := []) (wd hw 128 rfl) (wd hw 129 rfl) (nf_sel (z := yN22) (wd hw 131 rfl)) (wd hw 131 rfl) (wd hw 130 rfl) (wd hw 132 rfl) (wd hw 20 rfl) (fun _ r => r.exa 1 rfl) (m_remove0 l Z a0 hw _ (own_repl (by decide))) rfl at_197 (q := 200) rfl (by decide) rfl (na := 1) (by decide +kernel) rfl (by decide) (W := 0) rfl (by decide) (by decide) (by decide) (k' := 14) (n' := 1060) rfl rfl ?_
        rintro _ _ ⟨rfl, rfl⟩
        show Go _ _ _ _ _ _ _ _ _ _ []
        refine Go.aload C at_200 rfl rfl rfl ?_
        refine Go.iconst C at_202 rfl (v := (1 : Int32)) rfl ?_
        refine Go.pf C (wd hw 133 rfl) Via.refl 0 5 rfl rfl (wd hw 134 rfl) (wd hw 6 rfl) (ty := .int) (by decide) rfl rfl at_203 rfl (M' := (tE t1 .null .null ((own_upd (own_upd (own_upd (fun _ => (0 : Int64)) 0 (own_mx da ((0 : Int64) + (1 : Int64)))) 1 (own_mx db ((0 : Int64) + (1 : Int64)))) 2 (own_mx dc ((0 : Int64) + (1 : Int64)))) 1) (nx3 1) (p3 1) 1 :: wE w rA (Int32.ofNat sN) dm bt sA fA cA 0 1 :: aT rA ((List.replicate (64 : Int32).toNatClampNeg .null).set (0 : Int32).toNatClampNeg (.ref t1)) :: tE t0 .null .null ((own_upd (own_upd (own_upd (fun _ => (0 : Int64)) 0 (own_mx da ((0 : Int64) + (1 : Int64)))) 1 (own_mx db ((0 : Int64) + (1 : Int64)))) 2 (own_mx dc ((0 : Int64) + (1 : Int64)))) 0) (nx3 0) (p3 0) ((fun _ => (0 : Int32)) 0) :: tE t2 .null .null ((own_upd (own_upd (own_upd (fun _ => (0 : Int64)) 0 (own_mx da ((0 : Int64) + (1 : Int64)))) 1 (own_mx db ((0 : Int64) + (1 : Int64)))) 2 (own_mx dc ((0 : Int64) + (1 : Int64)))) 2) (nx3 2) (p3 2) ((fun _ => (0 : Int32)) 2) :: aS sA vs3 :: aF fA fs3 :: aI cA cs3 :: LS3)) rfl ?_
        refine Go.iload C at_206 rfl rfl ?_
        refine Go.ifNo C at_208 (q := 211) rfl (XT.i0_eq_f (by decide)) ?_
        refine Go.aload C at_211 rfl rfl rfl ?_
        refine Go.lload C at_213 rfl rfl ?_
        refine Go.pick (M' := (tE t0 .null .null ((own_upd (own_upd (own_upd (fun _ => (0 : Int64)) 0 (own_mx da ((0 : Int64) + (1 : Int64)))) 1 (own_mx db ((0 : Int64) + (1 : Int64)))) 2 (own_mx dc ((0 : Int64) + (1 : Int64)))) 0) (nx3 0) (p3 0) ((fun _ => (0 : Int32)) 0) :: tE t1 .null .null ((own_upd (own_upd (own_upd (fun _ => (0 : Int64)) 0 (own_mx da ((0 : Int64) + (1 : Int64)))) 1 (own_mx db ((0 : Int64) + (1 : Int64)))) 2 (own_mx dc ((0 : Int64) + (1 : Int64)))) 1) (nx3 1) (p3 1) 1 :: tE t2 .null .null ((own_upd (own_upd (own_upd (fun _ => (0 : Int64)) 0 (own_mx da ((0 : Int64) + (1 : Int64)))) 1 (own_mx db ((0 : Int64) + (1 : Int64)))) 2 (own_mx dc ((0 : Int64) + (1 : Int64)))) 2) (nx3 2) (p3 2) ((fun _ => (0 : Int32)) 2) :: wE w rA (Int32.ofNat sN) dm bt sA fA cA 0 1 :: aS sA vs3 :: aF fA fs3 :: aI cA cs3 :: aT rA ((List.replicate (64 : Int32).toNatClampNeg .null).set (0 : Int32).toNatClampNeg (.ref t1)) :: LS3)) 8 [3, 0, 4, 1, 5, 6, 7, 2] (by decide) (by decide) rfl ?_
        refine Go.callV C (y := yN25) (z := yN25) (a := w) (as := [(.long tg)]) (rest := []) (wd hw 144 rfl) (wd hw 145 rfl) (nf_sel (z := yN25) (wd hw 147 rfl)) (wd hw 147 rfl) (wd hw 146 rfl) (wd hw 148 rfl) (wd hw 20 rfl) (fun _ r => r.exa 3 rfl) (own_pollM l Z a0 hw (D := (own_upd (own_upd (own_upd (fun _ => (0 : Int64)) 0 (own_mx da ((0 : Int64) + (1 : Int64)))) 1 (own_mx db ((0 : Int64) + (1 : Int64)))) 2 (own_mx dc ((0 : Int64) + (1 : Int64))))) (s := (own_upd (fun _ => (0 : Int32)) 1 1)) (p := p3) (nx := nx3) (t := 0) (dN := own_n3 NA NB NC) hZ hG hsum hDD htg hgb hT ⟨0, by decide, by decide⟩ hI3 rfl (Nat.zero_le _) (fun _ _ => Nat.zero_le _) hRf (fun i hi _ => hY.symm.subset (by simp; omega))) rfl at_215 (q := 218) rfl (by decide) rfl (na := 1) (by decide +kernel) rfl (by decide) (W := 0) rfl (by decide) (by decide) (by decide) (k' := 140) (n' := 3140) rfl rfl ?_
        rintro _ _ ⟨v, tk4, p4, nx4, vs4, fs4, cs4, LS4, B4, R4, ks4, rfl, hvr, rfl, hI4, hF4, hO⟩
        show Go _ _ _ _ _ _ _ _ _ _ [v]
        refine Go.pop C at_218 rfl (XT.cat1 hvr) ?_
        rcases hO with ⟨hT4, hg4, hl4⟩ | ⟨x, hx1, hx3, hxl, hxn, hxg, hxm, hxo⟩
        · skip
          by_cases h1F : 1 ∈ own_fl B4
          · obtain ⟨hpn, hpr⟩ := own_prev (i := 1) (InvK.inv hI4) (List.perm_cons_erase h1F)
            refine Go.aload C at_219 rfl rfl rfl ?_
            refine Go.callV C (y := yN7) (z := yN7) (a := w) (as := []) (rest := []) (wd hw 55 rfl) (wd hw 56 rfl) (nf_sel (z := yN7) (wd hw 58 rfl)) (wd hw 58 rfl) (wd hw 57 rfl) (wd hw 59 rfl) (wd hw 20 rfl) (fun _ r => r.exa 3 rfl) (m_neF l Z a0 hw (D := (own_upd (own_upd (own_upd (fun _ => (0 : Int64)) 0 (own_mx da ((0 : Int64) + (1 : Int64)))) 1 (own_mx db ((0 : Int64) + (1 : Int64)))) 2 (own_mx dc ((0 : Int64) + (1 : Int64))))) (s := (own_upd (fun _ => (0 : Int32)) 1 1)) (p := p4) (nx := nx4) (t := NG) (m := (min NA NC)) hZ hG hDD hI4 hT4 (List.perm_cons_erase h1F) hT (own_sets (own_repl (by decide))) hpn hpr (fun i hi => (fun i hi => Nat.le_of_lt (hg4 i hi)) i (List.mem_of_mem_erase hi)) (own_m02 ((List.mem_erase_of_ne (by decide)).mpr (hl4 0 (by decide) (by decide))) ((List.mem_erase_of_ne (by decide)).mpr (hl4 2 (by decide) (by decide)))) (fun i hi => own_l02 (fun e => by subst e; exact (own_noer hI4 hi)))) rfl at_221 (q := 224) rfl (by decide) rfl (na := 0) (by decide +kernel) rfl (by decide) (W := 0) rfl (by decide) (by decide) (by decide) (k' := 140) (n' := 3140) rfl rfl ?_
            rintro _ Mz ⟨nt, rfl, hnt⟩
            show Go _ _ _ _ _ _ _ _ _ _ [(.long nt)]
            refine Go.lstore C at_224 rfl (Ls' := #[.val (.int s0), .val (.long p0), .second, .val (.long x0), .second, .val (.long y0), .second, .val (.long z0), .second, .val (.long q0), .second, .val (.int (Int32.ofNat sN)), .val (.int (1 : Int32)), .val (.int (1 : Int32)), .val (.long last), .second, .val (.long da), .second, .val (.long db), .second, .val (.long dc), .second, .val (.long tg), .second, .val (.ref t0), .val (.ref t1), .val (.ref t2), .val (.ref w), .val (.int (1 : Int32)), .val (.long nt), .second, .unset, .unset, .unset, .unset, .unset, .unset, .unset, .unset, .unset, .unset]) rfl ?_
            refine Go.iload C at_226 rfl rfl ?_
            refine Go.ifNo C at_228 (q := 231) rfl (XT.i0_eq_f (by decide)) ?_
            refine Go.lload C at_231 rfl rfl ?_
            refine Go.lload C at_233 rfl rfl ?_
            refine Go.callS C (y := yN19) (as := [(.long da), (.long dc)]) (rest := []) (wd hw 118 rfl) (wd hw 119 rfl) (wd hw 3 rfl) (wd hw 120 rfl) (m_minJ l Z a0 hw _) rfl at_235 (q := 238) rfl (by decide) rfl (na := 2) (by decide +kernel) rfl (by decide) (W := 0) rfl (by decide) (by decide) (by decide) (k' := 140) (n' := 3140) rfl rfl ?_
            rintro _ _ ⟨rfl, hMq⟩
            rw [hMq]
            show Go _ _ _ _ _ _ _ _ _ _ [(.long (own_mn da dc))]
            refine Go.lstore C at_238 rfl (Ls' := #[.val (.int s0), .val (.long p0), .second, .val (.long x0), .second, .val (.long y0), .second, .val (.long z0), .second, .val (.long q0), .second, .val (.int (Int32.ofNat sN)), .val (.int (1 : Int32)), .val (.int (1 : Int32)), .val (.long last), .second, .val (.long da), .second, .val (.long db), .second, .val (.long dc), .second, .val (.long tg), .second, .val (.ref t0), .val (.ref t1), .val (.ref t2), .val (.ref w), .val (.int (1 : Int32)), .val (.long nt), .second, .val (.long (own_mn da dc)), .second, .unset, .unset, .unset, .unset, .unset, .unset, .unset, .unset]) rfl ?_
            refine Go.lload C at_240 rfl rfl ?_
            refine Go.lload C at_242 rfl rfl ?_
            refine Go.callS C (y := yN1) (as := [(.long da), (.long dc)]) (rest := []) (wd hw 1 rfl) (wd hw 2 rfl) (wd hw 3 rfl) (wd hw 4 rfl) (m_maxJ l Z a0 hw _) rfl at_244 (q := 247) rfl (by decide) rfl (na := 2) (by decide +kernel) rfl (by decide) (W := 0) rfl (by decide) (by decide) (by decide) (k' := 140) (n' := 3140) rfl rfl ?_
            rintro _ _ ⟨rfl, hMq⟩
            rw [hMq]
            show Go _ _ _ _ _ _ _ _ _ _ [(.long (own_mx da dc))]
            refine Go.lstore C at_247 rfl (Ls' := #[.val (.int s0), .val (.long p0), .second, .val (.long x0), .second, .val (.long y0), .second, .val (.long z0), .second, .val (.long q0), .second, .val (.int (Int32.ofNat sN)), .val (.int (1 : Int32)), .val (.int (1 : Int32)), .val (.long last), .second, .val (.long da), .second, .val (.long db), .second, .val (.long dc), .second, .val (.long tg), .second, .val (.ref t0), .val (.ref t1), .val (.ref t2), .val (.ref w), .val (.int (1 : Int32)), .val (.long nt), .second, .val (.long (own_mn da dc)), .second, .val (.long (own_mx da dc)), .second, .unset, .unset, .unset, .unset, .unset, .unset]) rfl ?_
            refine Go.goto C at_249 (by decide) (q := 290) rfl ?_
            refine Go.iload C at_290 rfl rfl ?_
            refine Go.ifYes C at_292 (by decide) (q := 305) rfl (XT.i0_ne_t (by decide)) ?_
            refine Go.lload C at_305 rfl rfl ?_
            refine Go.lload C at_307 rfl rfl ?_
            refine Go.lcmp C at_309 rfl ?_
            refine Go.ifYes C at_310 (by decide) (q := 324) rfl (XT.ll_gt_t (by rw [Int64.lt_iff_toInt_lt, htg, (own_mnI hda hdc)]; have f0 : NG < NA := hg4 0 (hl4 0 (by decide) (by decide)); have f2 : NG < NC := hg4 2 (hl4 2 (by decide) (by decide)); omega)) ?_
            refine Go.lload C at_324 rfl rfl ?_
            refine Go.lstore C at_326 rfl (Ls' := #[.val (.int s0), .val (.long p0), .second, .val (.long x0), .second, .val (.long y0), .second, .val (.long z0), .second, .val (.long q0), .second, .val (.int (Int32.ofNat sN)), .val (.int (1 : Int32)), .val (.int (1 : Int32)), .val (.long last), .second, .val (.long da), .second, .val (.long db), .second, .val (.long dc), .second, .val (.long tg), .second, .val (.ref t0), .val (.ref t1), .val (.ref t2), .val (.ref w), .val (.int (1 : Int32)), .val (.long nt), .second, .val (.long (own_mn da dc)), .second, .val (.long (own_mx da dc)), .second, .val (.long tg), .second, .unset, .unset, .unset, .unset]) rfl ?_
            refine Go.lload C at_328 rfl rfl ?_
            refine Go.lstore C at_330 rfl (Ls' := #[.val (.int s0), .val (.long p0), .second, .val (.long x0), .second, .val (.long y0), .second, .val (.long z0), .second, .val (.long q0), .second, .val (.int (Int32.ofNat sN)), .val (.int (1 : Int32)), .val (.int (1 : Int32)), .val (.long last), .second, .val (.long da), .second, .val (.long db), .second, .val (.long dc), .second, .val (.long tg), .second, .val (.ref t0), .val (.ref t1), .val (.ref t2), .val (.ref w), .val (.int (1 : Int32)), .val (.long nt), .second, .val (.long (own_mn da dc)), .second, .val (.long (own_mx da dc)), .second, .val (.long tg), .second, .val (.long (own_mn da dc)), .second, .unset, .unset]) rfl ?_
            refine Go.lload C at_332 rfl rfl ?_
            refine Go.lload C at_334 rfl rfl ?_
            refine Go.iload C at_336 rfl rfl ?_
            refine Go.callS C (y := yN20) (as := [(.long tg), (.long (own_mn da dc)), (.int (Int32.ofNat sN))]) (rest := []) (wd hw 121 rfl) (wd hw 122 rfl) (wd hw 123 rfl) (wd hw 124 rfl) (m_ev l Z a0 hw _ (t := NG) (d := (min NA NC)) (own_mnI hda hdc) htg hs1 hs8 (own_xorI (own_mnI hda hdc) htg)) rfl at_338 (q := 341) rfl (by decide) rfl (na := 3) (by decide +kernel) rfl (by decide) (W := 0) rfl (by decide) (by decide) (by decide) (k' := 140) (n' := 3140) rfl rfl ?_
            rintro _ _ ⟨⟨ve, rfl, hve⟩, hMq⟩
            rw [hMq]
            show Go _ _ _ _ _ _ _ _ _ _ [(.long ve)]
            refine Go.lstore C at_341 rfl (Ls' := #[.val (.int s0), .val (.long p0), .second, .val (.long x0), .second, .val (.long y0), .second, .val (.long z0), .second, .val (.long q0), .second, .val (.int (Int32.ofNat sN)), .val (.int (1 : Int32)), .val (.int (1 : Int32)), .val (.long last), .second, .val (.long da), .second, .val (.long db), .second, .val (.long dc), .second, .val (.long tg), .second, .val (.ref t0), .val (.ref t1), .val (.ref t2), .val (.ref w), .val (.int (1 : Int32)), .val (.long nt), .second, .val (.long (own_mn da dc)), .second, .val (.long (own_mx da dc)), .second, .val (.long tg), .second, .val (.long (own_mn da dc)), .second, .val (.long ve), .second]) rfl ?_
            refine Go.iload C at_343 rfl rfl ?_
            refine Go.ifNo C at_345 (q := 348) rfl (XT.i0_eq_f (by decide)) ?_
            refine Go.lload C at_348 rfl rfl ?_
            refine Go.lload C at_350 rfl rfl ?_
            refine Go.lcmp C at_352 rfl ?_
            refine Go.ifNo C at_353 (q := 356) rfl (XT.ll_ne_f (Int64.toInt_inj.mp (by rw [hnt, hve, show NG = NG from (show NG = NG from by have f0 : NG < NA := hg4 0 (hl4 0 (by decide) (by decide)); have f2 : NG < NC := hg4 2 (hl4 2 (by decide) (by decide)); omega), show (min NA NC) = (min NA NC) from (by have f0 : NG < NA := hg4 0 (hl4 0 (by decide) (by decide)); have f2 : NG < NC := hg4 2 (hl4 2 (by decide) (by decide)); omega)]))) ?_
            refine Go.iconst C at_356 rfl (v := (1 : Int32)) rfl ?_
            refine Go.goto C at_357 (by decide) (q := 361) rfl ?_
            refine Go.retZ C rfl (by decide) at_361 (by decide) (by decide) ?_
            exact rfl
          · have hpn := (hF4 1 (own_inR hI4 (by decide) h1F)).1
            refine Go.aload C at_219 rfl rfl rfl ?_
            refine Go.callV C (y := yN7) (z := yN7) (a := w) (as := []) (rest := []) (wd hw 55 rfl) (wd hw 56 rfl) (nf_sel (z := yN7) (wd hw 58 rfl)) (wd hw 58 rfl) (wd hw 57 rfl) (wd hw 59 rfl) (wd hw 20 rfl) (fun _ r => r.exa 3 rfl) (m_neZ l Z a0 hw (D := (own_upd (own_upd (own_upd (fun _ => (0 : Int64)) 0 (own_mx da ((0 : Int64) + (1 : Int64)))) 1 (own_mx db ((0 : Int64) + (1 : Int64)))) 2 (own_mx dc ((0 : Int64) + (1 : Int64))))) (s := (own_upd (fun _ => (0 : Int32)) 1 1)) (p := p4) (nx := nx4) (t := NG) (m := (min NA NC)) hZ hG hDD hI4 hT4 (own_sets (own_repl (by decide))) hpn (fun i hi => Nat.le_of_lt (hg4 i hi)) (own_m02 (hl4 0 (by decide) (by decide)) (hl4 2 (by decide) (by decide))) (fun i hi => own_l02 (fun e => h1F (e ▸ hi)))) rfl at_221 (q := 224) rfl (by decide) rfl (na := 0) (by decide +kernel) rfl (by decide) (W := 0) rfl (by decide) (by decide) (by decide) (k' := 140) (n' := 3140) rfl rfl ?_
            rintro _ Mz ⟨nt, rfl, hnt⟩
            show Go _ _ _ _ _ _ _ _ _ _ [(.long nt)]
            refine Go.lstore C at_224 rfl (Ls' := #[.val (.int s0), .val (.long p0), .second, .val (.long x0), .second, .val (.long y0), .second, .val (.long z0), .second, .val (.long q0), .second, .val (.int (Int32.ofNat sN)), .val (.int (1 : Int32)), .val (.int (1 : Int32)), .val (.long last), .second, .val (.long da), .second, .val (.long db), .second, .val (.long dc), .second, .val (.long tg), .second, .val (.ref t0), .val (.ref t1), .val (.ref t2), .val (.ref w), .val (.int (1 : Int32)), .val (.long nt), .second, .unset, .unset, .unset, .unset, .unset, .unset, .unset, .unset, .unset, .unset]) rfl ?_
            refine Go.iload C at_226 rfl rfl ?_
            refine Go.ifNo C at_228 (q := 231) rfl (XT.i0_eq_f (by decide)) ?_
            refine Go.lload C at_231 rfl rfl ?_
            refine Go.lload C at_233 rfl rfl ?_
            refine Go.callS C (y := yN19) (as := [(.long da), (.long dc)]) (rest := []) (wd hw 118 rfl) (wd hw 119 rfl) (wd hw 3 rfl) (wd hw 120 rfl) (m_minJ l Z a0 hw _) rfl at_235 (q := 238) rfl (by decide) rfl (na := 2) (by decide +kernel) rfl (by decide) (W := 0) rfl (by decide) (by decide) (by decide) (k' := 140) (n' := 3140) rfl rfl ?_
            rintro _ _ ⟨rfl, hMq⟩
            rw [hMq]
            show Go _ _ _ _ _ _ _ _ _ _ [(.long (own_mn da dc))]
            refine Go.lstore C at_238 rfl (Ls' := #[.val (.int s0), .val (.long p0), .second, .val (.long x0), .second, .val (.long y0), .second, .val (.long z0), .second, .val (.long q0), .second, .val (.int (Int32.ofNat sN)), .val (.int (1 : Int32)), .val (.int (1 : Int32)), .val (.long last), .second, .val (.long da), .second, .val (.long db), .second, .val (.long dc), .second, .val (.long tg), .second, .val (.ref t0), .val (.ref t1), .val (.ref t2), .val (.ref w), .val (.int (1 : Int32)), .val (.long nt), .second, .val (.long (own_mn da dc)), .second, .unset, .unset, .unset, .unset, .unset, .unset, .unset, .unset]) rfl ?_
            refine Go.lload C at_240 rfl rfl ?_
            refine Go.lload C at_242 rfl rfl ?_
            refine Go.callS C (y := yN1) (as := [(.long da), (.long dc)]) (rest := []) (wd hw 1 rfl) (wd hw 2 rfl) (wd hw 3 rfl) (wd hw 4 rfl) (m_maxJ l Z a0 hw _) rfl at_244 (q := 247) rfl (by decide) rfl (na := 2) (by decide +kernel) rfl (by decide) (W := 0) rfl (by decide) (by decide) (by decide) (k' := 140) (n' := 3140) rfl rfl ?_
            rintro _ _ ⟨rfl, hMq⟩
            rw [hMq]
            show Go _ _ _ _ _ _ _ _ _ _ [(.long (own_mx da dc))]
            refine Go.lstore C at_247 rfl (Ls' := #[.val (.int s0), .val (.long p0), .second, .val (.long x0), .second, .val (.long y0), .second, .val (.long z0), .second, .val (.long q0), .second, .val (.int (Int32.ofNat sN)), .val (.int (1 : Int32)), .val (.int (1 : Int32)), .val (.long last), .second, .val (.long da), .second, .val (.long db), .second, .val (.long dc), .second, .val (.long tg), .second, .val (.ref t0), .val (.ref t1), .val (.ref t2), .val (.ref w), .val (.int (1 : Int32)), .val (.long nt), .second, .val (.long (own_mn da dc)), .second, .val (.long (own_mx da dc)), .second, .unset, .unset, .unset, .unset, .unset, .unset]) rfl ?_
            refine Go.goto C at_249 (by decide) (q := 290) rfl ?_
            refine Go.iload C at_290 rfl rfl ?_
            refine Go.ifYes C at_292 (by decide) (q := 305) rfl (XT.i0_ne_t (by decide)) ?_
            refine Go.lload C at_305 rfl rfl ?_
            refine Go.lload C at_307 rfl rfl ?_
            refine Go.lcmp C at_309 rfl ?_
            refine Go.ifYes C at_310 (by decide) (q := 324) rfl (XT.ll_gt_t (by rw [Int64.lt_iff_toInt_lt, htg, (own_mnI hda hdc)]; have f0 : NG < NA := hg4 0 (hl4 0 (by decide) (by decide)); have f2 : NG < NC := hg4 2 (hl4 2 (by decide) (by decide)); omega)) ?_
            refine Go.lload C at_324 rfl rfl ?_
            refine Go.lstore C at_326 rfl (Ls' := #[.val (.int s0), .val (.long p0), .second, .val (.long x0), .second, .val (.long y0), .second, .val (.long z0), .second, .val (.long q0), .second, .val (.int (Int32.ofNat sN)), .val (.int (1 : Int32)), .val (.int (1 : Int32)), .val (.long last), .second, .val (.long da), .second, .val (.long db), .second, .val (.long dc), .second, .val (.long tg), .second, .val (.ref t0), .val (.ref t1), .val (.ref t2), .val (.ref w), .val (.int (1 : Int32)), .val (.long nt), .second, .val (.long (own_mn da dc)), .second, .val (.long (own_mx da dc)), .second, .val (.long tg), .second, .unset, .unset, .unset, .unset]) rfl ?_
            refine Go.lload C at_328 rfl rfl ?_
            refine Go.lstore C at_330 rfl (Ls' := #[.val (.int s0), .val (.long p0), .second, .val (.long x0), .second, .val (.long y0), .second, .val (.long z0), .second, .val (.long q0), .second, .val (.int (Int32.ofNat sN)), .val (.int (1 : Int32)), .val (.int (1 : Int32)), .val (.long last), .second, .val (.long da), .second, .val (.long db), .second, .val (.long dc), .second, .val (.long tg), .second, .val (.ref t0), .val (.ref t1), .val (.ref t2), .val (.ref w), .val (.int (1 : Int32)), .val (.long nt), .second, .val (.long (own_mn da dc)), .second, .val (.long (own_mx da dc)), .second, .val (.long tg), .second, .val (.long (own_mn da dc)), .second, .unset, .unset]) rfl ?_
            refine Go.lload C at_332 rfl rfl ?_
            refine Go.lload C at_334 rfl rfl ?_
            refine Go.iload C at_336 rfl rfl ?_
            refine Go.callS C (y := yN20) (as := [(.long tg), (.long (own_mn da dc)), (.int (Int32.ofNat sN))]) (rest := []) (wd hw 121 rfl) (wd hw 122 rfl) (wd hw 123 rfl) (wd hw 124 rfl) (m_ev l Z a0 hw _ (t := NG) (d := (min NA NC)) (own_mnI hda hdc) htg hs1 hs8 (own_xorI (own_mnI hda hdc) htg)) rfl at_338 (q := 341) rfl (by decide) rfl (na := 3) (by decide +kernel) rfl (by decide) (W := 0) rfl (by decide) (by decide) (by decide) (k' := 140) (n' := 3140) rfl rfl ?_
            rintro _ _ ⟨⟨ve, rfl, hve⟩, hMq⟩
            rw [hMq]
            show Go _ _ _ _ _ _ _ _ _ _ [(.long ve)]
            refine Go.lstore C at_341 rfl (Ls' := #[.val (.int s0), .val (.long p0), .second, .val (.long x0), .second, .val (.long y0), .second, .val (.long z0), .second, .val (.long q0), .second, .val (.int (Int32.ofNat sN)), .val (.int (1 : Int32)), .val (.int (1 : Int32)), .val (.long last), .second, .val (.long da), .second, .val (.long db), .second, .val (.long dc), .second, .val (.long tg), .second, .val (.ref t0), .val (.ref t1), .val (.ref t2), .val (.ref w), .val (.int (1 : Int32)), .val (.long nt), .second, .val (.long (own_mn da dc)), .second, .val (.long (own_mx da dc)), .second, .val (.long tg), .second, .val (.long (own_mn da dc)), .second, .val (.long ve), .second]) rfl ?_
            refine Go.iload C at_343 rfl rfl ?_
            refine Go.ifNo C at_345 (q := 348) rfl (XT.i0_eq_f (by decide)) ?_
            refine Go.lload C at_348 rfl rfl ?_
            refine Go.lload C at_350 rfl rfl ?_
            refine Go.lcmp C at_352 rfl ?_
            refine Go.ifNo C at_353 (q := 356) rfl (XT.ll_ne_f (Int64.toInt_inj.mp (by rw [hnt, hve, show NG = NG from (show NG = NG from by have f0 : NG < NA := hg4 0 (hl4 0 (by decide) (by decide)); have f2 : NG < NC := hg4 2 (hl4 2 (by decide) (by decide)); omega), show (min NA NC) = (min NA NC) from (by have f0 : NG < NA := hg4 0 (hl4 0 (by decide) (by decide)); have f2 : NG < NC := hg4 2 (hl4 2 (by decide) (by decide)); omega)]))) ?_
            refine Go.iconst C at_356 rfl (v := (1 : Int32)) rfl ?_
            refine Go.goto C at_357 (by decide) (q := 361) rfl ?_
            refine Go.retZ C rfl (by decide) at_361 (by decide) (by decide) ?_
            exact rfl
        · obtain rfl | rfl | rfl : x = 0 ∨ x = 1 ∨ x = 2 := by omega
          · skip
            by_cases h1F : 1 ∈ own_fl B4
            · obtain ⟨hpn, hpr⟩ := own_prev (i := 1) (InvK.inv hI4) (List.perm_cons_erase h1F)
              refine Go.aload C at_219 rfl rfl rfl ?_
              refine Go.callV C (y := yN7) (z := yN7) (a := w) (as := []) (rest := []) (wd hw 55 rfl) (wd hw 56 rfl) (nf_sel (z := yN7) (wd hw 58 rfl)) (wd hw 58 rfl) (wd hw 57 rfl) (wd hw 59 rfl) (wd hw 20 rfl) (fun _ r => r.exa 3 rfl) (m_neF l Z a0 hw (D := (own_upd (own_upd (own_upd (fun _ => (0 : Int64)) 0 (own_mx da ((0 : Int64) + (1 : Int64)))) 1 (own_mx db ((0 : Int64) + (1 : Int64)))) 2 (own_mx dc ((0 : Int64) + (1 : Int64))))) (s := (own_upd (fun _ => (0 : Int32)) 1 1)) (p := p4) (nx := nx4) (t := (own_n3 NA NB NC 0)) (m := NC) hZ hG hDD hI4 hx1 (List.perm_cons_erase h1F) hT (own_sets (own_repl (by decide))) hpn hpr (fun i hi => hxm i (List.mem_of_mem_erase hi)) ⟨2, (List.mem_erase_of_ne (by decide)).mpr (hxo 2 (by decide) (by decide) (by decide)), rfl⟩ (fun i hi => own_only02 (InvK.lt3 hI4 (List.mem_append_left _ (List.mem_of_mem_erase hi))) (fun e => hxn (e ▸ List.mem_of_mem_erase hi)) (fun e => by subst e; exact (own_noer hI4 hi)))) rfl at_221 (q := 224) rfl (by decide) rfl (na := 0) (by decide +kernel) rfl (by decide) (W := 0) rfl (by decide) (by decide) (by decide) (k' := 140) (n' := 3140) rfl rfl ?_
              rintro _ Mz ⟨nt, rfl, hnt⟩
              show Go _ _ _ _ _ _ _ _ _ _ [(.long nt)]
              refine Go.lstore C at_224 rfl (Ls' := #[.val (.int s0), .val (.long p0), .second, .val (.long x0), .second, .val (.long y0), .second, .val (.long z0), .second, .val (.long q0), .second, .val (.int (Int32.ofNat sN)), .val (.int (1 : Int32)), .val (.int (1 : Int32)), .val (.long last), .second, .val (.long da), .second, .val (.long db), .second, .val (.long dc), .second, .val (.long tg), .second, .val (.ref t0), .val (.ref t1), .val (.ref t2), .val (.ref w), .val (.int (1 : Int32)), .val (.long nt), .second, .unset, .unset, .unset, .unset, .unset, .unset, .unset, .unset, .unset, .unset]) rfl ?_
              refine Go.iload C at_226 rfl rfl ?_
              refine Go.ifNo C at_228 (q := 231) rfl (XT.i0_eq_f (by decide)) ?_
              refine Go.lload C at_231 rfl rfl ?_
              refine Go.lload C at_233 rfl rfl ?_
              refine Go.callS C (y := yN19) (as := [(.long da), (.long dc)]) (rest := []) (wd hw 118 rfl) (wd hw 119 rfl) (wd hw 3 rfl) (wd hw 120 rfl) (m_minJ l Z a0 hw _) rfl at_235 (q := 238) rfl (by decide) rfl (na := 2) (by decide +kernel) rfl (by decide) (W := 0) rfl (by decide) (by decide) (by decide) (k' := 140) (n' := 3140) rfl rfl ?_
              rintro _ _ ⟨rfl, hMq⟩
              rw [hMq]
              show Go _ _ _ _ _ _ _ _ _ _ [(.long (own_mn da dc))]
              refine Go.lstore C at_238 rfl (Ls' := #[.val (.int s0), .val (.long p0), .second, .val (.long x0), .second, .val (.long y0), .second, .val (.long z0), .second, .val (.long q0), .second, .val (.int (Int32.ofNat sN)), .val (.int (1 : Int32)), .val (.int (1 : Int32)), .val (.long last), .second, .val (.long da), .second, .val (.long db), .second, .val (.long dc), .second, .val (.long tg), .second, .val (.ref t0), .val (.ref t1), .val (.ref t2), .val (.ref w), .val (.int (1 : Int32)), .val (.long nt), .second, .val (.long (own_mn da dc)), .second, .unset, .unset, .unset, .unset, .unset, .unset, .unset, .unset]) rfl ?_
              refine Go.lload C at_240 rfl rfl ?_
              refine Go.lload C at_242 rfl rfl ?_
              refine Go.callS C (y := yN1) (as := [(.long da), (.long dc)]) (rest := []) (wd hw 1 rfl) (wd hw 2 rfl) (wd hw 3 rfl) (wd hw 4 rfl) (m_maxJ l Z a0 hw _) rfl at_244 (q := 247) rfl (by decide) rfl (na := 2) (by decide +kernel) rfl (by decide) (W := 0) rfl (by decide) (by decide) (by decide) (k' := 140) (n' := 3140) rfl rfl ?_
              rintro _ _ ⟨rfl, hMq⟩
              rw [hMq]
              show Go _ _ _ _ _ _ _ _ _ _ [(.long (own_mx da dc))]
              refine Go.lstore C at_247 rfl (Ls' := #[.val (.int s0), .val (.long p0), .second, .val (.long x0), .second, .val (.long y0), .second, .val (.long z0), .second, .val (.long q0), .second, .val (.int (Int32.ofNat sN)), .val (.int (1 : Int32)), .val (.int (1 : Int32)), .val (.long last), .second, .val (.long da), .second, .val (.long db), .second, .val (.long dc), .second, .val (.long tg), .second, .val (.ref t0), .val (.ref t1), .val (.ref t2), .val (.ref w), .val (.int (1 : Int32)), .val (.long nt), .second, .val (.long (own_mn da dc)), .second, .val (.long (own_mx da dc)), .second, .unset, .unset, .unset, .unset, .unset, .unset]) rfl ?_
              refine Go.goto C at_249 (by decide) (q := 290) rfl ?_
              refine Go.iload C at_290 rfl rfl ?_
              refine Go.ifYes C at_292 (by decide) (q := 305) rfl (XT.i0_ne_t (by decide)) ?_
              refine Go.lload C at_305 rfl rfl ?_
              refine Go.lload C at_307 rfl rfl ?_
              refine Go.lcmp C at_309 rfl ?_
              refine Go.ifNo C at_310 (q := 313) rfl (XT.ll_gt_f (by rw [Int64.lt_iff_toInt_lt, htg, (own_mnI hda hdc)]; have f2 : NA ≤ NC := hxm 2 (hxo 2 (by decide) (by decide) (by decide)); have fg : NA ≤ NG := hxg; omega)) ?_
              refine Go.lload C at_313 rfl rfl ?_
              refine Go.lstore C at_315 rfl (Ls' := #[.val (.int s0), .val (.long p0), .second, .val (.long x0), .second, .val (.long y0), .second, .val (.long z0), .second, .val (.long q0), .second, .val (.int (Int32.ofNat sN)), .val (.int (1 : Int32)), .val (.int (1 : Int32)), .val (.long last), .second, .val (.long da), .second, .val (.long db), .second, .val (.long dc), .second, .val (.long tg), .second, .val (.ref t0), .val (.ref t1), .val (.ref t2), .val (.ref w), .val (.int (1 : Int32)), .val (.long nt), .second, .val (.long (own_mn da dc)), .second, .val (.long (own_mx da dc)), .second, .val (.long (own_mn da dc)), .second, .unset, .unset, .unset, .unset]) rfl ?_
              refine Go.lload C at_317 rfl rfl ?_
              refine Go.lstore C at_319 rfl (Ls' := #[.val (.int s0), .val (.long p0), .second, .val (.long x0), .second, .val (.long y0), .second, .val (.long z0), .second, .val (.long q0), .second, .val (.int (Int32.ofNat sN)), .val (.int (1 : Int32)), .val (.int (1 : Int32)), .val (.long last), .second, .val (.long da), .second, .val (.long db), .second, .val (.long dc), .second, .val (.long tg), .second, .val (.ref t0), .val (.ref t1), .val (.ref t2), .val (.ref w), .val (.int (1 : Int32)), .val (.long nt), .second, .val (.long (own_mn da dc)), .second, .val (.long (own_mx da dc)), .second, .val (.long (own_mn da dc)), .second, .val (.long (own_mx da dc)), .second, .unset, .unset]) rfl ?_
              refine Go.goto C at_321 (by decide) (q := 332) rfl ?_
              refine Go.lload C at_332 rfl rfl ?_
              refine Go.lload C at_334 rfl rfl ?_
              refine Go.iload C at_336 rfl rfl ?_
              refine Go.callS C (y := yN20) (as := [(.long (own_mn da dc)), (.long (own_mx da dc)), (.int (Int32.ofNat sN))]) (rest := []) (wd hw 121 rfl) (wd hw 122 rfl) (wd hw 123 rfl) (wd hw 124 rfl) (m_ev l Z a0 hw _ (t := (min NA NC)) (d := (max NA NC)) (own_mxI hda hdc) (own_mnI hda hdc) hs1 hs8 (own_xorI (own_mxI hda hdc) (own_mnI hda hdc))) rfl at_338 (q := 341) rfl (by decide) rfl (na := 3) (by decide +kernel) rfl (by decide) (W := 0) rfl (by decide) (by decide) (by decide) (k' := 140) (n' := 3140) rfl rfl ?_
              rintro _ _ ⟨⟨ve, rfl, hve⟩, hMq⟩
              rw [hMq]
              show Go _ _ _ _ _ _ _ _ _ _ [(.long ve)]
              refine Go.lstore C at_341 rfl (Ls' := #[.val (.int s0), .val (.long p0), .second, .val (.long x0), .second, .val (.long y0), .second, .val (.long z0), .second, .val (.long q0), .second, .val (.int (Int32.ofNat sN)), .val (.int (1 : Int32)), .val (.int (1 : Int32)), .val (.long last), .second, .val (.long da), .second, .val (.long db), .second, .val (.long dc), .second, .val (.long tg), .second, .val (.ref t0), .val (.ref t1), .val (.ref t2), .val (.ref w), .val (.int (1 : Int32)), .val (.long nt), .second, .val (.long (own_mn da dc)), .second, .val (.long (own_mx da dc)), .second, .val (.long (own_mn da dc)), .second, .val (.long (own_mx da dc)), .second, .val (.long ve), .second]) rfl ?_
              refine Go.iload C at_343 rfl rfl ?_
              refine Go.ifNo C at_345 (q := 348) rfl (XT.i0_eq_f (by decide)) ?_
              refine Go.lload C at_348 rfl rfl ?_
              refine Go.lload C at_350 rfl rfl ?_
              refine Go.lcmp C at_352 rfl ?_
              refine Go.ifNo C at_353 (q := 356) rfl (XT.ll_ne_f (Int64.toInt_inj.mp (by rw [hnt, hve, show (min NA NC) = (own_n3 NA NB NC 0) from (show (min NA NC) = NA from by have f2 : NA ≤ NC := hxm 2 (hxo 2 (by decide) (by decide) (by decide)); have fg : NA ≤ NG := hxg; omega), show (max NA NC) = NC from (by have f2 : NA ≤ NC := hxm 2 (hxo 2 (by decide) (by decide) (by decide)); have fg : NA ≤ NG := hxg; omega)]))) ?_
              refine Go.iconst C at_356 rfl (v := (1 : Int32)) rfl ?_
              refine Go.goto C at_357 (by decide) (q := 361) rfl ?_
              refine Go.retZ C rfl (by decide) at_361 (by decide) (by decide) ?_
              exact rfl
            · have hpn := (hF4 1 (own_inR hI4 (by decide) h1F)).1
              refine Go.aload C at_219 rfl rfl rfl ?_
              refine Go.callV C (y := yN7) (z := yN7) (a := w) (as := []) (rest := []) (wd hw 55 rfl) (wd hw 56 rfl) (nf_sel (z := yN7) (wd hw 58 rfl)) (wd hw 58 rfl) (wd hw 57 rfl) (wd hw 59 rfl) (wd hw 20 rfl) (fun _ r => r.exa 3 rfl) (m_neZ l Z a0 hw (D := (own_upd (own_upd (own_upd (fun _ => (0 : Int64)) 0 (own_mx da ((0 : Int64) + (1 : Int64)))) 1 (own_mx db ((0 : Int64) + (1 : Int64)))) 2 (own_mx dc ((0 : Int64) + (1 : Int64))))) (s := (own_upd (fun _ => (0 : Int32)) 1 1)) (p := p4) (nx := nx4) (t := (own_n3 NA NB NC 0)) (m := NC) hZ hG hDD hI4 hx1 (own_sets (own_repl (by decide))) hpn hxm ⟨2, (hxo 2 (by decide) (by decide) (by decide)), rfl⟩ (fun i hi => own_only02 (InvK.lt3 hI4 (List.mem_append_left _ hi)) (fun e => hxn (e ▸ hi)) (fun e => h1F (e ▸ hi)))) rfl at_221 (q := 224) rfl (by decide) rfl (na := 0) (by decide +kernel) rfl (by decide) (W := 0) rfl (by decide) (by decide) (by decide) (k' := 140) (n' := 3140) rfl rfl ?_
              rintro _ Mz ⟨nt, rfl, hnt⟩
              show Go _ _ _ _ _ _ _ _ _ _ [(.long nt)]
              refine Go.lstore C at_224 rfl (Ls' := #[.val (.int s0), .val (.long p0), .second, .val (.long x0), .second, .val (.long y0), .second, .val (.long z0), .second, .val (.long q0), .second, .val (.int (Int32.ofNat sN)), .val (.int (1 : Int32)), .val (.int (1 : Int32)), .val (.long last), .second, .val (.long da), .second, .val (.long db), .second, .val (.long dc), .second, .val (.long tg), .second, .val (.ref t0), .val (.ref t1), .val (.ref t2), .val (.ref w), .val (.int (1 : Int32)), .val (.long nt), .second, .unset, .unset, .unset, .unset, .unset, .unset, .unset, .unset, .unset, .unset]) rfl ?_
              refine Go.iload C at_226 rfl rfl ?_
              refine Go.ifNo C at_228 (q := 231) rfl (XT.i0_eq_f (by decide)) ?_
              refine Go.lload C at_231 rfl rfl ?_
              refine Go.lload C at_233 rfl rfl ?_
              refine Go.callS C (y := yN19) (as := [(.long da), (.long dc)]) (rest := []) (wd hw 118 rfl) (wd hw 119 rfl) (wd hw 3 rfl) (wd hw 120 rfl) (m_minJ l Z a0 hw _) rfl at_235 (q := 238) rfl (by decide) rfl (na := 2) (by decide +kernel) rfl (by decide) (W := 0) rfl (by decide) (by decide) (by decide) (k' := 140) (n' := 3140) rfl rfl ?_
              rintro _ _ ⟨rfl, hMq⟩
              rw [hMq]
              show Go _ _ _ _ _ _ _ _ _ _ [(.long (own_mn da dc))]
              refine Go.lstore C at_238 rfl (Ls' := #[.val (.int s0), .val (.long p0), .second, .val (.long x0), .second, .val (.long y0), .second, .val (.long z0), .second, .val (.long q0), .second, .val (.int (Int32.ofNat sN)), .val (.int (1 : Int32)), .val (.int (1 : Int32)), .val (.long last), .second, .val (.long da), .second, .val (.long db), .second, .val (.long dc), .second, .val (.long tg), .second, .val (.ref t0), .val (.ref t1), .val (.ref t2), .val (.ref w), .val (.int (1 : Int32)), .val (.long nt), .second, .val (.long (own_mn da dc)), .second, .unset, .unset, .unset, .unset, .unset, .unset, .unset, .unset]) rfl ?_
              refine Go.lload C at_240 rfl rfl ?_
              refine Go.lload C at_242 rfl rfl ?_
              refine Go.callS C (y := yN1) (as := [(.long da), (.long dc)]) (rest := []) (wd hw 1 rfl) (wd hw 2 rfl) (wd hw 3 rfl) (wd hw 4 rfl) (m_maxJ l Z a0 hw _) rfl at_244 (q := 247) rfl (by decide) rfl (na := 2) (by decide +kernel) rfl (by decide) (W := 0) rfl (by decide) (by decide) (by decide) (k' := 140) (n' := 3140) rfl rfl ?_
              rintro _ _ ⟨rfl, hMq⟩
              rw [hMq]
              show Go _ _ _ _ _ _ _ _ _ _ [(.long (own_mx da dc))]
              refine Go.lstore C at_247 rfl (Ls' := #[.val (.int s0), .val (.long p0), .second, .val (.long x0), .second, .val (.long y0), .second, .val (.long z0), .second, .val (.long q0), .second, .val (.int (Int32.ofNat sN)), .val (.int (1 : Int32)), .val (.int (1 : Int32)), .val (.long last), .second, .val (.long da), .second, .val (.long db), .second, .val (.long dc), .second, .val (.long tg), .second, .val (.ref t0), .val (.ref t1), .val (.ref t2), .val (.ref w), .val (.int (1 : Int32)), .val (.long nt), .second, .val (.long (own_mn da dc)), .second, .val (.long (own_mx da dc)), .second, .unset, .unset, .unset, .unset, .unset, .unset]) rfl ?_
              refine Go.goto C at_249 (by decide) (q := 290) rfl ?_
              refine Go.iload C at_290 rfl rfl ?_
              refine Go.ifYes C at_292 (by decide) (q := 305) rfl (XT.i0_ne_t (by decide)) ?_
              refine Go.lload C at_305 rfl rfl ?_
              refine Go.lload C at_307 rfl rfl ?_
              refine Go.lcmp C at_309 rfl ?_
              refine Go.ifNo C at_310 (q := 313) rfl (XT.ll_gt_f (by rw [Int64.lt_iff_toInt_lt, htg, (own_mnI hda hdc)]; have f2 : NA ≤ NC := hxm 2 (hxo 2 (by decide) (by decide) (by decide)); have fg : NA ≤ NG := hxg; omega)) ?_
              refine Go.lload C at_313 rfl rfl ?_
              refine Go.lstore C at_315 rfl (Ls' := #[.val (.int s0), .val (.long p0), .second, .val (.long x0), .second, .val (.long y0), .second, .val (.long z0), .second, .val (.long q0), .second, .val (.int (Int32.ofNat sN)), .val (.int (1 : Int32)), .val (.int (1 : Int32)), .val (.long last), .second, .val (.long da), .second, .val (.long db), .second, .val (.long dc), .second, .val (.long tg), .second, .val (.ref t0), .val (.ref t1), .val (.ref t2), .val (.ref w), .val (.int (1 : Int32)), .val (.long nt), .second, .val (.long (own_mn da dc)), .second, .val (.long (own_mx da dc)), .second, .val (.long (own_mn da dc)), .second, .unset, .unset, .unset, .unset]) rfl ?_
              refine Go.lload C at_317 rfl rfl ?_
              refine Go.lstore C at_319 rfl (Ls' := #[.val (.int s0), .val (.long p0), .second, .val (.long x0), .second, .val (.long y0), .second, .val (.long z0), .second, .val (.long q0), .second, .val (.int (Int32.ofNat sN)), .val (.int (1 : Int32)), .val (.int (1 : Int32)), .val (.long last), .second, .val (.long da), .second, .val (.long db), .second, .val (.long dc), .second, .val (.long tg), .second, .val (.ref t0), .val (.ref t1), .val (.ref t2), .val (.ref w), .val (.int (1 : Int32)), .val (.long nt), .second, .val (.long (own_mn da dc)), .second, .val (.long (own_mx da dc)), .second, .val (.long (own_mn da dc)), .second, .val (.long (own_mx da dc)), .second, .unset, .unset]) rfl ?_
              refine Go.goto C at_321 (by decide) (q := 332) rfl ?_
              refine Go.lload C at_332 rfl rfl ?_
              refine Go.lload C at_334 rfl rfl ?_
              refine Go.iload C at_336 rfl rfl ?_
              refine Go.callS C (y := yN20) (as := [(.long (own_mn da dc)), (.long (own_mx da dc)), (.int (Int32.ofNat sN))]) (rest := []) (wd hw 121 rfl) (wd hw 122 rfl) (wd hw 123 rfl) (wd hw 124 rfl) (m_ev l Z a0 hw _ (t := (min NA NC)) (d := (max NA NC)) (own_mxI hda hdc) (own_mnI hda hdc) hs1 hs8 (own_xorI (own_mxI hda hdc) (own_mnI hda hdc))) rfl at_338 (q := 341) rfl (by decide) rfl (na := 3) (by decide +kernel) rfl (by decide) (W := 0) rfl (by decide) (by decide) (by decide) (k' := 140) (n' := 3140) rfl rfl ?_
              rintro _ _ ⟨⟨ve, rfl, hve⟩, hMq⟩
              rw [hMq]
              show Go _ _ _ _ _ _ _ _ _ _ [(.long ve)]
              refine Go.lstore C at_341 rfl (Ls' := #[.val (.int s0), .val (.long p0), .second, .val (.long x0), .second, .val (.long y0), .second, .val (.long z0), .second, .val (.long q0), .second, .val (.int (Int32.ofNat sN)), .val (.int (1 : Int32)), .val (.int (1 : Int32)), .val (.long last), .second, .val (.long da), .second, .val (.long db), .second, .val (.long dc), .second, .val (.long tg), .second, .val (.ref t0), .val (.ref t1), .val (.ref t2), .val (.ref w), .val (.int (1 : Int32)), .val (.long nt), .second, .val (.long (own_mn da dc)), .second, .val (.long (own_mx da dc)), .second, .val (.long (own_mn da dc)), .second, .val (.long (own_mx da dc)), .second, .val (.long ve), .second]) rfl ?_
              refine Go.iload C at_343 rfl rfl ?_
              refine Go.ifNo C at_345 (q := 348) rfl (XT.i0_eq_f (by decide)) ?_
              refine Go.lload C at_348 rfl rfl ?_
              refine Go.lload C at_350 rfl rfl ?_
              refine Go.lcmp C at_352 rfl ?_
              refine Go.ifNo C at_353 (q := 356) rfl (XT.ll_ne_f (Int64.toInt_inj.mp (by rw [hnt, hve, show (min NA NC) = (own_n3 NA NB NC 0) from (show (min NA NC) = NA from by have f2 : NA ≤ NC := hxm 2 (hxo 2 (by decide) (by decide) (by decide)); have fg : NA ≤ NG := hxg; omega), show (max NA NC) = NC from (by have f2 : NA ≤ NC := hxm 2 (hxo 2 (by decide) (by decide) (by decide)); have fg : NA ≤ NG := hxg; omega)]))) ?_
              refine Go.iconst C at_356 rfl (v := (1 : Int32)) rfl ?_
              refine Go.goto C at_357 (by decide) (q := 361) rfl ?_
              refine Go.retZ C rfl (by decide) at_361 (by decide) (by decide) ?_
              exact rfl
          · exact absurd rfl hxl
          · skip
            by_cases h1F : 1 ∈ own_fl B4
            · obtain ⟨hpn, hpr⟩ := own_prev (i := 1) (InvK.inv hI4) (List.perm_cons_erase h1F)
              refine Go.aload C at_219 rfl rfl rfl ?_
              refine Go.callV C (y := yN7) (z := yN7) (a := w) (as := []) (rest := []) (wd hw 55 rfl) (wd hw 56 rfl) (nf_sel (z := yN7) (wd hw 58 rfl)) (wd hw 58 rfl) (wd hw 57 rfl) (wd hw 59 rfl) (wd hw 20 rfl) (fun _ r => r.exa 3 rfl) (m_neF l Z a0 hw (D := (own_upd (own_upd (own_upd (fun _ => (0 : Int64)) 0 (own_mx da ((0 : Int64) + (1 : Int64)))) 1 (own_mx db ((0 : Int64) + (1 : Int64)))) 2 (own_mx dc ((0 : Int64) + (1 : Int64))))) (s := (own_upd (fun _ => (0 : Int32)) 1 1)) (p := p4) (nx := nx4) (t := (own_n3 NA NB NC 2)) (m := NA) hZ hG hDD hI4 hx1 (List.perm_cons_erase h1F) hT (own_sets (own_repl (by decide))) hpn hpr (fun i hi => hxm i (List.mem_of_mem_erase hi)) ⟨0, (List.mem_erase_of_ne (by decide)).mpr (hxo 0 (by decide) (by decide) (by decide)), rfl⟩ (fun i hi => own_only20 (InvK.lt3 hI4 (List.mem_append_left _ (List.mem_of_mem_erase hi))) (fun e => hxn (e ▸ List.mem_of_mem_erase hi)) (fun e => by subst e; exact (own_noer hI4 hi)))) rfl at_221 (q := 224) rfl (by decide) rfl (na := 0) (by decide +kernel) rfl (by decide) (W := 0) rfl (by decide) (by decide) (by decide) (k' := 140) (n' := 3140) rfl rfl ?_
              rintro _ Mz ⟨nt, rfl, hnt⟩
              show Go _ _ _ _ _ _ _ _ _ _ [(.long nt)]
              refine Go.lstore C at_224 rfl (Ls' := #[.val (.int s0), .val (.long p0), .second, .val (.long x0), .second, .val (.long y0), .second, .val (.long z0), .second, .val (.long q0), .second, .val (.int (Int32.ofNat sN)), .val (.int (1 : Int32)), .val (.int (1 : Int32)), .val (.long last), .second, .val (.long da), .second, .val (.long db), .second, .val (.long dc), .second, .val (.long tg), .second, .val (.ref t0), .val (.ref t1), .val (.ref t2), .val (.ref w), .val (.int (1 : Int32)), .val (.long nt), .second, .unset, .unset, .unset, .unset, .unset, .unset, .unset, .unset, .unset, .unset]) rfl ?_
              refine Go.iload C at_226 rfl rfl ?_
              refine Go.ifNo C at_228 (q := 231) rfl (XT.i0_eq_f (by decide)) ?_
              refine Go.lload C at_231 rfl rfl ?_
              refine Go.lload C at_233 rfl rfl ?_
              refine Go.callS C (y := yN19) (as := [(.long da), (.long dc)]) (rest := []) (wd hw 118 rfl) (wd hw 119 rfl) (wd hw 3 rfl) (wd hw 120 rfl) (m_minJ l Z a0 hw _) rfl at_235 (q := 238) rfl (by decide) rfl (na := 2) (by decide +kernel) rfl (by decide) (W := 0) rfl (by decide) (by decide) (by decide) (k' := 140) (n' := 3140) rfl rfl ?_
              rintro _ _ ⟨rfl, hMq⟩
              rw [hMq]
              show Go _ _ _ _ _ _ _ _ _ _ [(.long (own_mn da dc))]
              refine Go.lstore C at_238 rfl (Ls' := #[.val (.int s0), .val (.long p0), .second, .val (.long x0), .second, .val (.long y0), .second, .val (.long z0), .second, .val (.long q0), .second, .val (.int (Int32.ofNat sN)), .val (.int (1 : Int32)), .val (.int (1 : Int32)), .val (.long last), .second, .val (.long da), .second, .val (.long db), .second, .val (.long dc), .second, .val (.long tg), .second, .val (.ref t0), .val (.ref t1), .val (.ref t2), .val (.ref w), .val (.int (1 : Int32)), .val (.long nt), .second, .val (.long (own_mn da dc)), .second, .unset, .unset, .unset, .unset, .unset, .unset, .unset, .unset]) rfl ?_
              refine Go.lload C at_240 rfl rfl ?_
              refine Go.lload C at_242 rfl rfl ?_
              refine Go.callS C (y := yN1) (as := [(.long da), (.long dc)]) (rest := []) (wd hw 1 rfl) (wd hw 2 rfl) (wd hw 3 rfl) (wd hw 4 rfl) (m_maxJ l Z a0 hw _) rfl at_244 (q := 247) rfl (by decide) rfl (na := 2) (by decide +kernel) rfl (by decide) (W := 0) rfl (by decide) (by decide) (by decide) (k' := 140) (n' := 3140) rfl rfl ?_
              rintro _ _ ⟨rfl, hMq⟩
              rw [hMq]
              show Go _ _ _ _ _ _ _ _ _ _ [(.long (own_mx da dc))]
              refine Go.lstore C at_247 rfl (Ls' := #[.val (.int s0), .val (.long p0), .second, .val (.long x0), .second, .val (.long y0), .second, .val (.long z0), .second, .val (.long q0), .second, .val (.int (Int32.ofNat sN)), .val (.int (1 : Int32)), .val (.int (1 : Int32)), .val (.long last), .second, .val (.long da), .second, .val (.long db), .second, .val (.long dc), .second, .val (.long tg), .second, .val (.ref t0), .val (.ref t1), .val (.ref t2), .val (.ref w), .val (.int (1 : Int32)), .val (.long nt), .second, .val (.long (own_mn da dc)), .second, .val (.long (own_mx da dc)), .second, .unset, .unset, .unset, .unset, .unset, .unset]) rfl ?_
              refine Go.goto C at_249 (by decide) (q := 290) rfl ?_
              refine Go.iload C at_290 rfl rfl ?_
              refine Go.ifYes C at_292 (by decide) (q := 305) rfl (XT.i0_ne_t (by decide)) ?_
              refine Go.lload C at_305 rfl rfl ?_
              refine Go.lload C at_307 rfl rfl ?_
              refine Go.lcmp C at_309 rfl ?_
              refine Go.ifNo C at_310 (q := 313) rfl (XT.ll_gt_f (by rw [Int64.lt_iff_toInt_lt, htg, (own_mnI hda hdc)]; have f0 : NC ≤ NA := hxm 0 (hxo 0 (by decide) (by decide) (by decide)); have fg : NC ≤ NG := hxg; omega)) ?_
              refine Go.lload C at_313 rfl rfl ?_
              refine Go.lstore C at_315 rfl (Ls' := #[.val (.int s0), .val (.long p0), .second, .val (.long x0), .second, .val (.long y0), .second, .val (.long z0), .second, .val (.long q0), .second, .val (.int (Int32.ofNat sN)), .val (.int (1 : Int32)), .val (.int (1 : Int32)), .val (.long last), .second, .val (.long da), .second, .val (.long db), .second, .val (.long dc), .second, .val (.long tg), .second, .val (.ref t0), .val (.ref t1), .val (.ref t2), .val (.ref w), .val (.int (1 : Int32)), .val (.long nt), .second, .val (.long (own_mn da dc)), .second, .val (.long (own_mx da dc)), .second, .val (.long (own_mn da dc)), .second, .unset, .unset, .unset, .unset]) rfl ?_
              refine Go.lload C at_317 rfl rfl ?_
              refine Go.lstore C at_319 rfl (Ls' := #[.val (.int s0), .val (.long p0), .second, .val (.long x0), .second, .val (.long y0), .second, .val (.long z0), .second, .val (.long q0), .second, .val (.int (Int32.ofNat sN)), .val (.int (1 : Int32)), .val (.int (1 : Int32)), .val (.long last), .second, .val (.long da), .second, .val (.long db), .second, .val (.long dc), .second, .val (.long tg), .second, .val (.ref t0), .val (.ref t1), .val (.ref t2), .val (.ref w), .val (.int (1 : Int32)), .val (.long nt), .second, .val (.long (own_mn da dc)), .second, .val (.long (own_mx da dc)), .second, .val (.long (own_mn da dc)), .second, .val (.long (own_mx da dc)), .second, .unset, .unset]) rfl ?_
              refine Go.goto C at_321 (by decide) (q := 332) rfl ?_
              refine Go.lload C at_332 rfl rfl ?_
              refine Go.lload C at_334 rfl rfl ?_
              refine Go.iload C at_336 rfl rfl ?_
              refine Go.callS C (y := yN20) (as := [(.long (own_mn da dc)), (.long (own_mx da dc)), (.int (Int32.ofNat sN))]) (rest := []) (wd hw 121 rfl) (wd hw 122 rfl) (wd hw 123 rfl) (wd hw 124 rfl) (m_ev l Z a0 hw _ (t := (min NA NC)) (d := (max NA NC)) (own_mxI hda hdc) (own_mnI hda hdc) hs1 hs8 (own_xorI (own_mxI hda hdc) (own_mnI hda hdc))) rfl at_338 (q := 341) rfl (by decide) rfl (na := 3) (by decide +kernel) rfl (by decide) (W := 0) rfl (by decide) (by decide) (by decide) (k' := 140) (n' := 3140) rfl rfl ?_
              rintro _ _ ⟨⟨ve, rfl, hve⟩, hMq⟩
              rw [hMq]
              show Go _ _ _ _ _ _ _ _ _ _ [(.long ve)]
              refine Go.lstore C at_341 rfl (Ls' := #[.val (.int s0), .val (.long p0), .second, .val (.long x0), .second, .val (.long y0), .second, .val (.long z0), .second, .val (.long q0), .second, .val (.int (Int32.ofNat sN)), .val (.int (1 : Int32)), .val (.int (1 : Int32)), .val (.long last), .second, .val (.long da), .second, .val (.long db), .second, .val (.long dc), .second, .val (.long tg), .second, .val (.ref t0), .val (.ref t1), .val (.ref t2), .val (.ref w), .val (.int (1 : Int32)), .val (.long nt), .second, .val (.long (own_mn da dc)), .second, .val (.long (own_mx da dc)), .second, .val (.long (own_mn da dc)), .second, .val (.long (own_mx da dc)), .second, .val (.long ve), .second]) rfl ?_
              refine Go.iload C at_343 rfl rfl ?_
              refine Go.ifNo C at_345 (q := 348) rfl (XT.i0_eq_f (by decide)) ?_
              refine Go.lload C at_348 rfl rfl ?_
              refine Go.lload C at_350 rfl rfl ?_
              refine Go.lcmp C at_352 rfl ?_
              refine Go.ifNo C at_353 (q := 356) rfl (XT.ll_ne_f (Int64.toInt_inj.mp (by rw [hnt, hve, show (min NA NC) = (own_n3 NA NB NC 2) from (show (min NA NC) = NC from by have f0 : NC ≤ NA := hxm 0 (hxo 0 (by decide) (by decide) (by decide)); have fg : NC ≤ NG := hxg; omega), show (max NA NC) = NA from (by have f0 : NC ≤ NA := hxm 0 (hxo 0 (by decide) (by decide) (by decide)); have fg : NC ≤ NG := hxg; omega)]))) ?_
              refine Go.iconst C at_356 rfl (v := (1 : Int32)) rfl ?_
              refine Go.goto C at_357 (by decide) (q := 361) rfl ?_
              refine Go.retZ C rfl (by decide) at_361 (by decide) (by decide) ?_
              exact rfl
            · have hpn := (hF4 1 (own_inR hI4 (by decide) h1F)).1
              refine Go.aload C at_219 rfl rfl rfl ?_
              refine Go.callV C (y := yN7) (z := yN7) (a := w) (as := []) (rest := []) (wd hw 55 rfl) (wd hw 56 rfl) (nf_sel (z := yN7) (wd hw 58 rfl)) (wd hw 58 rfl) (wd hw 57 rfl) (wd hw 59 rfl) (wd hw 20 rfl) (fun _ r => r.exa 3 rfl) (m_neZ l Z a0 hw (D := (own_upd (own_upd (own_upd (fun _ => (0 : Int64)) 0 (own_mx da ((0 : Int64) + (1 : Int64)))) 1 (own_mx db ((0 : Int64) + (1 : Int64)))) 2 (own_mx dc ((0 : Int64) + (1 : Int64))))) (s := (own_upd (fun _ => (0 : Int32)) 1 1)) (p := p4) (nx := nx4) (t := (own_n3 NA NB NC 2)) (m := NA) hZ hG hDD hI4 hx1 (own_sets (own_repl (by decide))) hpn hxm ⟨0, (hxo 0 (by decide) (by decide) (by decide)), rfl⟩ (fun i hi => own_only20 (InvK.lt3 hI4 (List.mem_append_left _ hi)) (fun e => hxn (e ▸ hi)) (fun e => h1F (e ▸ hi)))) rfl at_221 (q := 224) rfl (by decide) rfl (na := 0) (by decide +kernel) rfl (by decide) (W := 0) rfl (by decide) (by decide) (by decide) (k' := 140) (n' := 3140) rfl rfl ?_
              rintro _ Mz ⟨nt, rfl, hnt⟩
              show Go _ _ _ _ _ _ _ _ _ _ [(.long nt)]
              refine Go.lstore C at_224 rfl (Ls' := #[.val (.int s0), .val (.long p0), .second, .val (.long x0), .second, .val (.long y0), .second, .val (.long z0), .second, .val (.long q0), .second, .val (.int (Int32.ofNat sN)), .val (.int (1 : Int32)), .val (.int (1 : Int32)), .val (.long last), .second, .val (.long da), .second, .val (.long db), .second, .val (.long dc), .second, .val (.long tg), .second, .val (.ref t0), .val (.ref t1), .val (.ref t2), .val (.ref w), .val (.int (1 : Int32)), .val (.long nt), .second, .unset, .unset, .unset, .unset, .unset, .unset, .unset, .unset, .unset, .unset]) rfl ?_
              refine Go.iload C at_226 rfl rfl ?_
              refine Go.ifNo C at_228 (q := 231) rfl (XT.i0_eq_f (by decide)) ?_
              refine Go.lload C at_231 rfl rfl ?_
              refine Go.lload C at_233 rfl rfl ?_
              refine Go.callS C (y := yN19) (as := [(.long da), (.long dc)]) (rest := []) (wd hw 118 rfl) (wd hw 119 rfl) (wd hw 3 rfl) (wd hw 120 rfl) (m_minJ l Z a0 hw _) rfl at_235 (q := 238) rfl (by decide) rfl (na := 2) (by decide +kernel) rfl (by decide) (W := 0) rfl (by decide) (by decide) (by decide) (k' := 140) (n' := 3140) rfl rfl ?_
              rintro _ _ ⟨rfl, hMq⟩
              rw [hMq]
              show Go _ _ _ _ _ _ _ _ _ _ [(.long (own_mn da dc))]
              refine Go.lstore C at_238 rfl (Ls' := #[.val (.int s0), .val (.long p0), .second, .val (.long x0), .second, .val (.long y0), .second, .val (.long z0), .second, .val (.long q0), .second, .val (.int (Int32.ofNat sN)), .val (.int (1 : Int32)), .val (.int (1 : Int32)), .val (.long last), .second, .val (.long da), .second, .val (.long db), .second, .val (.long dc), .second, .val (.long tg), .second, .val (.ref t0), .val (.ref t1), .val (.ref t2), .val (.ref w), .val (.int (1 : Int32)), .val (.long nt), .second, .val (.long (own_mn da dc)), .second, .unset, .unset, .unset, .unset, .unset, .unset, .unset, .unset]) rfl ?_
              refine Go.lload C at_240 rfl rfl ?_
              refine Go.lload C at_242 rfl rfl ?_
              refine Go.callS C (y := yN1) (as := [(.long da), (.long dc)]) (rest := []) (wd hw 1 rfl) (wd hw 2 rfl) (wd hw 3 rfl) (wd hw 4 rfl) (m_maxJ l Z a0 hw _) rfl at_244 (q := 247) rfl (by decide) rfl (na := 2) (by decide +kernel) rfl (by decide) (W := 0) rfl (by decide) (by decide) (by decide) (k' := 140) (n' := 3140) rfl rfl ?_
              rintro _ _ ⟨rfl, hMq⟩
              rw [hMq]
              show Go _ _ _ _ _ _ _ _ _ _ [(.long (own_mx da dc))]
              refine Go.lstore C at_247 rfl (Ls' := #[.val (.int s0), .val (.long p0), .second, .val (.long x0), .second, .val (.long y0), .second, .val (.long z0), .second, .val (.long q0), .second, .val (.int (Int32.ofNat sN)), .val (.int (1 : Int32)), .val (.int (1 : Int32)), .val (.long last), .second, .val (.long da), .second, .val (.long db), .second, .val (.long dc), .second, .val (.long tg), .second, .val (.ref t0), .val (.ref t1), .val (.ref t2), .val (.ref w), .val (.int (1 : Int32)), .val (.long nt), .second, .val (.long (own_mn da dc)), .second, .val (.long (own_mx da dc)), .second, .unset, .unset, .unset, .unset, .unset, .unset]) rfl ?_
              refine Go.goto C at_249 (by decide) (q := 290) rfl ?_
              refine Go.iload C at_290 rfl rfl ?_
              refine Go.ifYes C at_292 (by decide) (q := 305) rfl (XT.i0_ne_t (by decide)) ?_
              refine Go.lload C at_305 rfl rfl ?_
              refine Go.lload C at_307 rfl rfl ?_
              refine Go.lcmp C at_309 rfl ?_
              refine Go.ifNo C at_310 (q := 313) rfl (XT.ll_gt_f (by rw [Int64.lt_iff_toInt_lt, htg, (own_mnI hda hdc)]; have f0 : NC ≤ NA := hxm 0 (hxo 0 (by decide) (by decide) (by decide)); have fg : NC ≤ NG := hxg; omega)) ?_
              refine Go.lload C at_313 rfl rfl ?_
              refine Go.lstore C at_315 rfl (Ls' := #[.val (.int s0), .val (.long p0), .second, .val (.long x0), .second, .val (.long y0), .second, .val (.long z0), .second, .val (.long q0), .second, .val (.int (Int32.ofNat sN)), .val (.int (1 : Int32)), .val (.int (1 : Int32)), .val (.long last), .second, .val (.long da), .second, .val (.long db), .second, .val (.long dc), .second, .val (.long tg), .second, .val (.ref t0), .val (.ref t1), .val (.ref t2), .val (.ref w), .val (.int (1 : Int32)), .val (.long nt), .second, .val (.long (own_mn da dc)), .second, .val (.long (own_mx da dc)), .second, .val (.long (own_mn da dc)), .second, .unset, .unset, .unset, .unset]) rfl ?_
              refine Go.lload C at_317 rfl rfl ?_
              refine Go.lstore C at_319 rfl (Ls' := #[.val (.int s0), .val (.long p0), .second, .val (.long x0), .second, .val (.long y0), .second, .val (.long z0), .second, .val (.long q0), .second, .val (.int (Int32.ofNat sN)), .val (.int (1 : Int32)), .val (.int (1 : Int32)), .val (.long last), .second, .val (.long da), .second, .val (.long db), .second, .val (.long dc), .second, .val (.long tg), .second, .val (.ref t0), .val (.ref t1), .val (.ref t2), .val (.ref w), .val (.int (1 : Int32)), .val (.long nt), .second, .val (.long (own_mn da dc)), .second, .val (.long (own_mx da dc)), .second, .val (.long (own_mn da dc)), .second, .val (.long (own_mx da dc)), .second, .unset, .unset]) rfl ?_
              refine Go.goto C at_321 (by decide) (q := 332) rfl ?_
              refine Go.lload C at_332 rfl rfl ?_
              refine Go.lload C at_334 rfl rfl ?_
              refine Go.iload C at_336 rfl rfl ?_
              refine Go.callS C (y := yN20) (as := [(.long (own_mn da dc)), (.long (own_mx da dc)), (.int (Int32.ofNat sN))]) (rest := []) (wd hw 121 rfl) (wd hw 122 rfl) (wd hw 123 rfl) (wd hw 124 rfl) (m_ev l Z a0 hw _ (t := (min NA NC)) (d := (max NA NC)) (own_mxI hda hdc) (own_mnI hda hdc) hs1 hs8 (own_xorI (own_mxI hda hdc) (own_mnI hda hdc))) rfl at_338 (q := 341) rfl (by decide) rfl (na := 3) (by decide +kernel) rfl (by decide) (W := 0) rfl (by decide) (by decide) (by decide) (k' := 140) (n' := 3140) rfl rfl ?_
              rintro _ _ ⟨⟨ve, rfl, hve⟩, hMq⟩
              rw [hMq]
              show Go _ _ _ _ _ _ _ _ _ _ [(.long ve)]
              refine Go.lstore C at_341 rfl (Ls' := #[.val (.int s0), .val (.long p0), .second, .val (.long x0), .second, .val (.long y0), .second, .val (.long z0), .second, .val (.long q0), .second, .val (.int (Int32.ofNat sN)), .val (.int (1 : Int32)), .val (.int (1 : Int32)), .val (.long last), .second, .val (.long da), .second, .val (.long db), .second, .val (.long dc), .second, .val (.long tg), .second, .val (.ref t0), .val (.ref t1), .val (.ref t2), .val (.ref w), .val (.int (1 : Int32)), .val (.long nt), .second, .val (.long (own_mn da dc)), .second, .val (.long (own_mx da dc)), .second, .val (.long (own_mn da dc)), .second, .val (.long (own_mx da dc)), .second, .val (.long ve), .second]) rfl ?_
              refine Go.iload C at_343 rfl rfl ?_
              refine Go.ifNo C at_345 (q := 348) rfl (XT.i0_eq_f (by decide)) ?_
              refine Go.lload C at_348 rfl rfl ?_
              refine Go.lload C at_350 rfl rfl ?_
              refine Go.lcmp C at_352 rfl ?_
              refine Go.ifNo C at_353 (q := 356) rfl (XT.ll_ne_f (Int64.toInt_inj.mp (by rw [hnt, hve, show (min NA NC) = (own_n3 NA NB NC 2) from (show (min NA NC) = NC from by have f0 : NC ≤ NA := hxm 0 (hxo 0 (by decide) (by decide) (by decide)); have fg : NC ≤ NG := hxg; omega), show (max NA NC) = NA from (by have f0 : NC ≤ NA := hxm 0 (hxo 0 (by decide) (by decide) (by decide)); have fg : NC ≤ NG := hxg; omega)]))) ?_
              refine Go.iconst C at_356 rfl (v := (1 : Int32)) rfl ?_
              refine Go.goto C at_357 (by decide) (q := 361) rfl ?_
              refine Go.retZ C rfl (by decide) at_361 (by decide) (by decide) ?_
              exact rfl
    · refine Go.ifc C at_26 (by decide) (q := 33) rfl (q' := 29) rfl (fun (h26_1 : (s0 &&& (16 : Int32)) = 0) => ?_) (fun (h26_1 : ¬ (s0 &&& (16 : Int32)) = 0) => ?_)
      · refine Go.iconst C at_33 rfl (v := (0 : Int32)) rfl ?_
        exact J34_18 _ (by simp [h26_1])
      · refine Go.iconst C at_29 rfl (v := (1 : Int32)) rfl ?_
        refine Go.goto C at_30 (by decide) (q := 34) rfl ?_
        exact J34_18 _ (by simp [h26_1])
  · refine Go.ifc C at_12 (by decide) (q := 19) rfl (q' := 15) rfl (fun (h12_2 : (s0 &&& (8 : Int32)) = 0) => ?_) (fun (h12_2 : ¬ (s0 &&& (8 : Int32)) = 0) => ?_)
    · refine Go.iconst C at_19 rfl (v := (0 : Int32)) rfl ?_
      exact J20_11 _ (by simp [h12_2])
    · refine Go.iconst C at_15 rfl (v := (1 : Int32)) rfl ?_
      refine Go.goto C at_16 (by decide) (q := 20) rfl ?_
      exact J20_11 _ (by simp [h12_2])
set_option maxRecDepth 65536 in
set_option maxHeartbeats 40000000 in
theorem comes_1 {Post : Tables → Env → Array Value → State → Outcome → State → Prop} (hpost : ∀ tb e args s v u, (limb_1_1.after args s (.returned v) u = true ∧ limb_1_2.after args s (.returned v) u = true ∧ True) → FrameEnd s (.returned v) u (Jvm.fieldLocs frame_1_writes args s ++ Jvm.arrayLocs frame_1_arrays args s ++ Jvm.staticLocs frame_1_statics s) 160 4224 → Post tb e args s (.returned v) u) :
    ArmFor flags0 classFile x code maxLocals ret World_1 tables_1 room_1 Calls_1 rest_1 Pre_1 Post := by
  intro l hfl _ _ p e ha hc hk s m args below hf hA hF happ hP
  obtain ⟨hcalls, hrest, hpre⟩ := hP
  obtain ⟨-, -, -, hnamed, -, -, -, hat⟩ := (Spec.applies_iff hf).mp happ
  obtain ⟨hg, hn⟩ := and_e (Cond.before_iff.mp (show (Jvm.Cond.and given_1 narrow_1).before args s = true from hpre))
  obtain ⟨hcount, hg⟩ := and_e hg
  obtain ⟨w0, w1, w2, w3, w4, w5, rfl⟩ : ∃ w0 w1 w2 w3 w4 w5 : Value, args = #[w0, w1, w2, w3, w4, w5] := by
    have hs : args.size = 6 := by simpa [Cond.value, given_1] using hcount
    obtain ⟨L⟩ := args
    match L, hs with
    | [w0, w1, w2, w3, w4, w5], _ => exact ⟨w0, w1, w2, w3, w4, w5, rfl⟩
  have hw := fun d (hd : d ∈ tables_1) => atoms_spec (ws := Jvm.Cond.code x code maxLocals ret :: tables_1) hat d (List.mem_cons_of_mem _ hd)
  obtain ⟨g0, hg⟩ := and_e hg
  obtain ⟨s0, e0⟩ := is_v g0
  obtain rfl : w0 = (.int s0) := Option.some.inj e0
  obtain ⟨g1, hg⟩ := and_e hg
  obtain ⟨p0, e1⟩ := isL_v g1
  obtain rfl : w1 = (.long p0) := Option.some.inj e1
  obtain ⟨g2, hg⟩ := and_e hg
  obtain ⟨x0, e2⟩ := isL_v g2
  obtain rfl : w2 = (.long x0) := Option.some.inj e2
  obtain ⟨g3, hg⟩ := and_e hg
  obtain ⟨y0, e3⟩ := isL_v g3
  obtain rfl : w3 = (.long y0) := Option.some.inj e3
  obtain ⟨g4, hg⟩ := and_e hg
  obtain ⟨z0, e4⟩ := isL_v g4
  obtain rfl : w4 = (.long z0) := Option.some.inj e4
  have g5 := hg
  obtain ⟨q0, e5⟩ := isL_v g5
  obtain rfl : w5 = (.long q0) := Option.some.inj e5
  obtain ⟨n, o, h1, h2, h3, _, L, rfl, ⟨N, _, rfl, -⟩, hq⟩ := m_law l s _ hw s0 p0 x0 y0 z0 q0 tables_1 s.heap (rep0 s) p e ha hc hk s m _ below hf ((Spec.applies_iff_loose hf).mp happ).1 ⟨rfl, State.Warmed39.refl s, rfl⟩ trivial
  refine ⟨n, _, h1, h2, h3, hpost _ _ _ _ _ _ ⟨Cond.after_iff.mpr rfl, Cond.after_iff.mpr (eq_i res_at (Term.int_eval (1)) rfl), trivial⟩ ⟨hq.1, hq.2.1, (hq.2.2.sift fun y hy => Or.inr (N y hy)).mono (by decide) (by decide)⟩⟩
theorem main_1_1 : Claimed_1_1 := comes_1 fun _ _ _ _ _ _ h hF => ⟨h.1, hF⟩
theorem main_1_2 : Claimed_1_2 := comes_1 fun _ _ _ _ _ _ h hF => ⟨h.2.1, hF⟩
end Jvm.Pilot.@@N@@
namespace Jvm.Pilot.@@N@@
open Jvm Jvm.ClassFile Sem Op Lib Jvm.Free Jvm.Stand Jvm.Pilot.@@N@@.Jvm.D
/-! MADE BY PROGRAM (witnessworld.py) out of the Statement's table words and the real class files: 20 classes; the members and pool entries that the words name. The judged class is class 1, her method 3. -/
namespace start1
open Jvm.ClassFile
def u (s : String) : CpInfo := .utf8 (stringToUtf16 s)
/-- a pool by its gaps: so many unusable entries, then the entry; so many at the end -/
def gap : Nat → List CpInfo → List CpInfo
  | 0, r => r
  | n + 1, r => .unusable :: gap n r
def poolList (es : List (Nat × CpInfo)) (last : Nat) : List CpInfo := es.foldr (fun e r => gap e.1 (e.2 :: r)) (gap last [])
def pool (es : List (Nat × CpInfo)) (last : Nat) : Array CpInfo := ⟨poolList es last⟩
def fileOf (pool : Array CpInfo) (this : Nat) (attrs : Array Attribute := #[]) (ms : Array MethodInfo := #[]) (fl : Nat := 33) (sup : Nat := 0) (ifs : Array Nat := #[]) (fds : Array FieldInfo := #[]) : ClassFile where
  minorVersion := 0
  majorVersion := 65
  constantPool := pool
  accessFlags := fl
  thisClass := this
  superClass := sup
  interfaces := ifs
  fields := fds
  methods := ms
  attributes := attrs
def plain (name : String) (sup : Option ClassId) : Class where
  name := name
  kind := .ordinary
  loader := none
  accessFlags := 33
  super := sup
  interfaces := #[]
  cf := none
  fields := #[]
  methods := #[]
  instanceTypes := #[]
  staticTypes := #[]
  resolved := #[]
  callSites := []
  init := .initialized
  statics := none
  mirror := none

def pool0 : Array CpInfo := pool [(5, u "<init>"), (0, u "()V"), (1, .class_ 10), (1, u "java/lang/Object")] 113

def k0c0 : Code := { maxStack := 0, maxLocals := 1, code := object_method_1_code, exceptionTable := #[], attributes := #[] }
def k0m0 : Method := { name := "<init>", desc := "()V", sig := { parameters := [], returnType := none }, accessFlags := 1, code := some k0c0 }
/-- java/lang/Object -/
def k0 : Class := { plain "java/lang/Object" none with
  accessFlags := 33
  interfaces := #[]
  cf := some (fileOf pool0 8 #[] #[{ accessFlags := 1, nameIndex := 5, descriptorIndex := 6, attributes := #[] }] 33 0 #[] #[])
  fields := #[]
  methods := #[k0m0]
  instanceTypes := #[]
  staticTypes := #[]
  resolved := Array.replicate 124 none
  statics := none }

def pool1 : Array CpInfo := pool [(2, .class_ 4), (1, u "java/lang/Object"), (0, u "<init>"), (0, u "()V"), (0, .methodref 8 9), (0, .class_ 10), (0, .nameAndType 11 12), (0, u "com/example/charkha/charkha/WheelsNextEventPinLaw"), (0, u "highBit"), (0, u "(J)I"), (2, .long 9223372036854775807), (1, .methodref 18 19), (0, .class_ 20), (0, .nameAndType 21 22), (0, u "java/lang/Math"), (0, u "max"), (0, u "(JJ)J"), (0, .class_ 24), (0, u "com/example/charkha/charkha/Timeout"), (0, .methodref 23 26), (0, .nameAndType 5 27), (0, u "(Lcom/example/charkha/charkha/WheelTimer;Ljava/lang/Runnable;)V"), (0, .class_ 29), (0, u "com/example/charkha/charkha/Wheels"), (0, .methodref 28 31), (0, .nameAndType 5 32), (0, u "(IJ)V"), (0, .methodref 28 34), (0, .nameAndType 35 36), (0, u "nextEvent"), (0, u "()J"), (0, .methodref 28 38), (0, .nameAndType 39 40), (0, u "add"), (0, u "(Lcom/example/charkha/charkha/Timeout;J)V"), (0, .methodref 28 42), (0, .nameAndType 43 44), (0, u "remove"), (0, u "(Lcom/example/charkha/charkha/Timeout;)V"), (0, .fieldref 23 46), (0, .nameAndType 47 48), (0, u "state"), (0, u "I"), (0, .methodref 28 50), (0, .nameAndType 51 52), (0, u "poll"), (0, u "(J)Lcom/example/charkha/charkha/Timeout;"), (0, .methodref 18 54), (0, .nameAndType 55 22), (0, u "min"), (0, .methodref 8 57), (0, .nameAndType 58 59), (0, u "eventOf"), (0, u "(JJI)J"), (3, u "law"), (0, u "(IJJJJJ)Z")] 2

def k1m0 : Method := { name := "<init>", desc := "()V", sig := { parameters := [], returnType := none }, accessFlags := 1, code := none }
def k1c1 : Code := { maxStack := 4, maxLocals := 5, code := method_2_code, exceptionTable := #[], attributes := #[] }
def k1m1 : Method := { name := "highBit", desc := "(J)I", sig := { parameters := [.long], returnType := some .int }, accessFlags := 10, code := some k1c1 }
def k1c2 : Code := { maxStack := 4, maxLocals := 8, code := method_3_code, exceptionTable := #[], attributes := #[] }
def k1m2 : Method := { name := "eventOf", desc := "(JJI)J", sig := { parameters := [.long, .long, .int], returnType := some .long }, accessFlags := 10, code := some k1c2 }
def k1c3 : Code := { maxStack := 6, maxLocals := 41, code := code, exceptionTable := #[], attributes := #[] }
def k1m3 : Method := { name := "law", desc := "(IJJJJJ)Z", sig := { parameters := [.int, .long, .long, .long, .long, .long], returnType := some .boolean }, accessFlags := 9, code := some k1c3 }
/-- com/example/charkha/charkha/WheelsNextEventPinLaw -/
def k1 : Class := { plain "com/example/charkha/charkha/WheelsNextEventPinLaw" (some 0) with
  accessFlags := 49
  interfaces := #[]
  cf := some (fileOf pool1 8 #[] #[{ accessFlags := 1, nameIndex := 5, descriptorIndex := 6, attributes := #[] }, { accessFlags := 10, nameIndex := 11, descriptorIndex := 12, attributes := #[] }, { accessFlags := 10, nameIndex := 58, descriptorIndex := 59, attributes := #[] }, { accessFlags := 9, nameIndex := 63, descriptorIndex := 64, attributes := #[] }] 49 2 #[] #[])
  fields := #[]
  methods := #[k1m0, k1m1, k1m2, k1m3]
  instanceTypes := #[]
  staticTypes := #[]
  resolved := Array.replicate 67 none
  statics := none }

def pool2 : Array CpInfo := pool [(1, .class_ 2), (0, u "java/lang/Math"), (1, .class_ 6), (1, u "java/lang/Object"), (0, u "<init>"), (0, u "()V"), (89, .class_ 100), (1, u "java/lang/Math$RandomNumberGeneratorHolder"), (20, u "(JJ)J"), (50, u "negativeZeroFloatBits"), (0, u "J"), (2, u "negativeZeroDoubleBits"), (21, u "max"), (2, u "min"), (43, u "$assertionsDisabled"), (0, u "Z"), (88, u "(II)I"), (2, u "twoToTheDoubleScaleDown"), (0, u "D"), (4, u "twoToTheDoubleScaleUp"), (9, u "E"), (3, u "PI"), (2, u "TAU"), (2, u "DEGREES_TO_RADIANS"), (0, u "RADIANS_TO_DEGREES")] 94

def k2m0 : Method := { name := "<init>", desc := "()V", sig := { parameters := [], returnType := none }, accessFlags := 2, code := none }
def k2c1 : Code := { maxStack := 4, maxLocals := 4, code := jdk_29_method_66_code, exceptionTable := #[], attributes := #[] }
def k2m1 : Method := { name := "max", desc := "(JJ)J", sig := { parameters := [.long, .long], returnType := some .long }, accessFlags := 9, code := some k2c1 }
def k2c2 : Code := { maxStack := 2, maxLocals := 2, code := jdk_29_method_69_code, exceptionTable := #[], attributes := #[] }
def k2m2 : Method := { name := "min", desc := "(II)I", sig := { parameters := [.int, .int], returnType := some .int }, accessFlags := 9, code := some k2c2 }
def k2c3 : Code := { maxStack := 4, maxLocals := 4, code := jdk_29_method_70_code, exceptionTable := #[], attributes := #[] }
def k2m3 : Method := { name := "min", desc := "(JJ)J", sig := { parameters := [.long, .long], returnType := some .long }, accessFlags := 9, code := some k2c3 }
/-- java/lang/Math -/
def k2 : Class := { plain "java/lang/Math" (some 0) with
  accessFlags := 49
  interfaces := #[]
  cf := some (fileOf pool2 1 #[.nestMembers #[98]] #[{ accessFlags := 2, nameIndex := 7, descriptorIndex := 8, attributes := #[] }, { accessFlags := 9, nameIndex := 198, descriptorIndex := 121, attributes := #[] }, { accessFlags := 9, nameIndex := 201, descriptorIndex := 335, attributes := #[] }, { accessFlags := 9, nameIndex := 201, descriptorIndex := 121, attributes := #[] }] 49 4 #[] #[{ accessFlags := 25, nameIndex := 354, descriptorIndex := 339, attributes := #[] }, { accessFlags := 25, nameIndex := 358, descriptorIndex := 339, attributes := #[] }, { accessFlags := 25, nameIndex := 361, descriptorIndex := 339, attributes := #[] }, { accessFlags := 26, nameIndex := 364, descriptorIndex := 339, attributes := #[] }, { accessFlags := 26, nameIndex := 365, descriptorIndex := 339, attributes := #[] }, { accessFlags := 26, nameIndex := 172, descriptorIndex := 173, attributes := #[] }, { accessFlags := 26, nameIndex := 176, descriptorIndex := 173, attributes := #[] }, { accessFlags := 8, nameIndex := 344, descriptorIndex := 339, attributes := #[] }, { accessFlags := 8, nameIndex := 338, descriptorIndex := 339, attributes := #[] }, { accessFlags := 4120, nameIndex := 245, descriptorIndex := 246, attributes := #[] }])
  fields := #[{ name := "E", type := .double, accessFlags := 25, slot := 0, constantValue := 0 }, { name := "PI", type := .double, accessFlags := 25, slot := 1, constantValue := 0 }, { name := "TAU", type := .double, accessFlags := 25, slot := 2, constantValue := 0 }, { name := "DEGREES_TO_RADIANS", type := .double, accessFlags := 26, slot := 3, constantValue := 0 }, { name := "RADIANS_TO_DEGREES", type := .double, accessFlags := 26, slot := 4, constantValue := 0 }, { name := "negativeZeroFloatBits", type := .long, accessFlags := 26, slot := 5, constantValue := 0 }, { name := "negativeZeroDoubleBits", type := .long, accessFlags := 26, slot := 6, constantValue := 0 }, { name := "twoToTheDoubleScaleUp", type := .double, accessFlags := 8, slot := 7, constantValue := 0 }, { name := "twoToTheDoubleScaleDown", type := .double, accessFlags := 8, slot := 8, constantValue := 0 }, { name := "$assertionsDisabled", type := .boolean, accessFlags := 4120, slot := 9, constantValue := 0 }]
  methods := #[k2m0, k2m1, k2m2, k2m3]
  instanceTypes := #[]
  staticTypes := #[.double, .double, .double, .double, .double, .long, .long, .double, .double, .boolean]
  resolved := Array.replicate 460 none
  statics := none }

def pool3 : Array CpInfo := pool [(1, .methodref 2 3), (0, .class_ 4), (0, .nameAndType 5 6), (0, u "java/lang/Object"), (0, u "<init>"), (0, u "()V"), (0, .fieldref 8 9), (0, .class_ 10), (0, .nameAndType 11 12), (0, u "com/example/charkha/charkha/Timeout"), (0, u "timer"), (0, u "Lcom/example/charkha/charkha/WheelTimer;"), (0, .fieldref 8 14), (0, .nameAndType 15 16), (0, u "task"), (0, u "Ljava/lang/Runnable;"), (6, .fieldref 8 24), (0, .nameAndType 25 26), (0, u "state"), (0, u "I"), (0, u "PENDING"), (2, u "CANCELLED"), (1, u "EXPIRED"), (1, u "RUNNING"), (1, u "deadline"), (0, u "J"), (0, u "prev"), (0, u "Lcom/example/charkha/charkha/Timeout;"), (0, u "next"), (0, u "(Lcom/example/charkha/charkha/WheelTimer;Ljava/lang/Runnable;)V"), (2, u "()Z"), (0, u "isCancelled")] 7

def k3c0 : Code := { maxStack := 2, maxLocals := 3, code := prog_4_method_1_code, exceptionTable := #[], attributes := #[] }
def k3m0 : Method := { name := "<init>", desc := "(Lcom/example/charkha/charkha/WheelTimer;Ljava/lang/Runnable;)V", sig := { parameters := [(.object "com/example/charkha/charkha/WheelTimer"), (.object "java/lang/Runnable")], returnType := none }, accessFlags := 0, code := some k3c0 }
def k3c1 : Code := { maxStack := 2, maxLocals := 1, code := prog_4_method_3_code, exceptionTable := #[], attributes := #[] }
def k3m1 : Method := { name := "isCancelled", desc := "()Z", sig := { parameters := [], returnType := some .boolean }, accessFlags := 1, code := some k3c1 }
/-- com/example/charkha/charkha/Timeout -/
def k3 : Class := { plain "com/example/charkha/charkha/Timeout" (some 0) with
  accessFlags := 33
  interfaces := #[]
  cf := some (fileOf pool3 8 #[] #[{ accessFlags := 0, nameIndex := 5, descriptorIndex := 41, attributes := #[] }, { accessFlags := 1, nameIndex := 45, descriptorIndex := 44, attributes := #[] }] 33 2 #[] #[{ accessFlags := 24, nameIndex := 27, descriptorIndex := 26, attributes := #[] }, { accessFlags := 24, nameIndex := 30, descriptorIndex := 26, attributes := #[] }, { accessFlags := 24, nameIndex := 32, descriptorIndex := 26, attributes := #[] }, { accessFlags := 24, nameIndex := 34, descriptorIndex := 26, attributes := #[] }, { accessFlags := 18, nameIndex := 11, descriptorIndex := 12, attributes := #[] }, { accessFlags := 18, nameIndex := 15, descriptorIndex := 16, attributes := #[] }, { accessFlags := 0, nameIndex := 36, descriptorIndex := 37, attributes := #[] }, { accessFlags := 64, nameIndex := 25, descriptorIndex := 26, attributes := #[] }, { accessFlags := 0, nameIndex := 38, descriptorIndex := 39, attributes := #[] }, { accessFlags := 0, nameIndex := 40, descriptorIndex := 39, attributes := #[] }])
  fields := #[{ name := "PENDING", type := .int, accessFlags := 24, slot := 0, constantValue := 0 }, { name := "CANCELLED", type := .int, accessFlags := 24, slot := 1, constantValue := 0 }, { name := "EXPIRED", type := .int, accessFlags := 24, slot := 2, constantValue := 0 }, { name := "RUNNING", type := .int, accessFlags := 24, slot := 3, constantValue := 0 }, { name := "timer", type := (.object "com/example/charkha/charkha/WheelTimer"), accessFlags := 18, slot := 0, constantValue := 0 }, { name := "task", type := (.object "java/lang/Runnable"), accessFlags := 18, slot := 1, constantValue := 0 }, { name := "deadline", type := .long, accessFlags := 0, slot := 2, constantValue := 0 }, { name := "state", type := .int, accessFlags := 64, slot := 3, constantValue := 0 }, { name := "prev", type := (.object "com/example/charkha/charkha/Timeout"), accessFlags := 0, slot := 4, constantValue := 0 }, { name := "next", type := (.object "com/example/charkha/charkha/Timeout"), accessFlags := 0, slot := 5, constantValue := 0 }]
  methods := #[k3m0, k3m1]
  instanceTypes := #[(.object "com/example/charkha/charkha/WheelTimer"), (.object "java/lang/Runnable"), .long, .int, (.object "com/example/charkha/charkha/Timeout"), (.object "com/example/charkha/charkha/Timeout")]
  staticTypes := #[.int, .int, .int, .int]
  resolved := Array.replicate 53 none
  statics := none }

def pool4 : Array CpInfo := pool [(1, .class_ 2), (0, u "java/lang/Long"), (0, .methodref 4 5), (0, .class_ 6), (0, .nameAndType 7 8), (0, u "java/lang/Object"), (0, u "<init>"), (0, u "()V"), (0, .class_ 10), (0, u "com/example/charkha/charkha/Wheels"), (0, .class_ 12), (0, u "com/example/charkha/charkha/Timeout"), (0, .fieldref 9 14), (0, .nameAndType 15 16), (0, u "removed"), (0, u "[Lcom/example/charkha/charkha/Timeout;"), (0, .fieldref 9 18), (0, .nameAndType 19 20), (0, u "shift"), (0, u "I"), (0, .fieldref 9 22), (0, .nameAndType 23 24), (0, u "digitMask"), (0, u "J"), (0, .methodref 1 26), (0, .nameAndType 27 28), (0, u "numberOfLeadingZeros"), (0, u "(J)I"), (0, .fieldref 9 30), (0, .nameAndType 31 20), (0, u "bits"), (0, .class_ 16), (0, .fieldref 9 34), (0, .nameAndType 35 36), (0, u "slots"), (0, u "[[Lcom/example/charkha/charkha/Timeout;"), (0, .class_ 38), (0, u "[J"), (0, .fieldref 9 40), (0, .nameAndType 41 42), (0, u "filed"), (0, u "[[J"), (0, .fieldref 9 44), (0, .nameAndType 45 46), (0, u "filedSlots"), (0, u "[I"), (0, .fieldref 9 48), (0, .nameAndType 49 24), (0, u "tick"), (0, .methodref 51 52), (0, .class_ 53), (0, .nameAndType 54 55), (0, u "java/lang/Math"), (0, u "max"), (0, u "(JJ)J"), (0, .fieldref 11 57), (0, .nameAndType 58 24), (0, u "deadline"), (0, .methodref 9 60), (0, .nameAndType 61 62), (0, u "file"), (0, u "(Lcom/example/charkha/charkha/Timeout;)V"), (0, .fieldref 9 64), (0, .nameAndType 65 20), (0, u "removedCount"), (0, .methodref 9 67), (0, .nameAndType 68 8), (0, u "unlinkRemoved"), (0, .methodref 9 70), (0, .nameAndType 71 72), (0, u "lowestFiledLevel"), (0, u "()I"), (0, .long 9223372036854775807), (1, .methodref 9 76), (0, .nameAndType 77 78), (0, u "firstFiledSlot"), (0, u "(I)I"), (0, .methodref 9 80), (0, .nameAndType 81 82), (0, u "slotTick"), (0, u "(II)J"), (0, .methodref 9 84), (0, .nameAndType 85 86), (0, u "moveDown"), (0, u "(II)V"), (0, .methodref 9 88), (0, .nameAndType 89 62), (0, u "unlink"), (0, .methodref 11 91), (0, .nameAndType 92 93), (0, u "isCancelled"), (0, u "()Z"), (0, .methodref 1 95), (0, .nameAndType 96 28), (0, u "numberOfTrailingZeros"), (0, .fieldref 11 98), (0, .nameAndType 99 100), (0, u "prev"), (0, u "Lcom/example/charkha/charkha/Timeout;"), (0, .methodref 9 102), (0, .nameAndType 103 86), (0, u "clear"), (0, .fieldref 11 105), (0, .nameAndType 106 100), (0, u "next"), (0, .methodref 9 108), (0, .nameAndType 109 28), (0, u "levelOf"), (0, .methodref 9 111), (0, .nameAndType 112 113), (0, u "digit"), (0, u "(JI)I"), (0, .methodref 51 115), (0, .nameAndType 116 117), (0, u "min"), (0, u "(II)I"), (0, .long 18446744073709551615), (10, u "NONE"), (1, u "REMOVAL_BATCH"), (1, u "(IJ)V"), (2, u "add"), (0, u "(Lcom/example/charkha/charkha/Timeout;J)V"), (0, u "remove"), (1, u "nextEvent"), (0, u "()J"), (0, u "poll"), (0, u "(J)Lcom/example/charkha/charkha/Timeout;")] 19

def k4c0 : Code := { maxStack := 5, maxLocals := 5, code := prog_12_method_1_code, exceptionTable := #[], attributes := #[] }
def k4m0 : Method := { name := "<init>", desc := "(IJ)V", sig := { parameters := [.int, .long], returnType := none }, accessFlags := 0, code := some k4c0 }
def k4c1 : Code := { maxStack := 7, maxLocals := 4, code := prog_12_method_2_code, exceptionTable := #[], attributes := #[] }
def k4m1 : Method := { name := "add", desc := "(Lcom/example/charkha/charkha/Timeout;J)V", sig := { parameters := [(.object "com/example/charkha/charkha/Timeout"), .long], returnType := none }, accessFlags := 0, code := some k4c1 }
def k4c2 : Code := { maxStack := 3, maxLocals := 2, code := prog_12_method_3_code, exceptionTable := #[], attributes := #[] }
def k4m2 : Method := { name := "remove", desc := "(Lcom/example/charkha/charkha/Timeout;)V", sig := { parameters := [(.object "com/example/charkha/charkha/Timeout")], returnType := none }, accessFlags := 0, code := some k4c2 }
def k4c3 : Code := { maxStack := 4, maxLocals := 2, code := prog_12_method_4_code, exceptionTable := #[], attributes := #[] }
def k4m3 : Method := { name := "nextEvent", desc := "()J", sig := { parameters := [], returnType := some .long }, accessFlags := 0, code := some k4c3 }
def k4c4 : Code := { maxStack := 5, maxLocals := 8, code := prog_12_method_5_code, exceptionTable := #[], attributes := #[] }
def k4m4 : Method := { name := "poll", desc := "(J)Lcom/example/charkha/charkha/Timeout;", sig := { parameters := [.long], returnType := some (.object "com/example/charkha/charkha/Timeout") }, accessFlags := 0, code := some k4c4 }
def k4c5 : Code := { maxStack := 3, maxLocals := 5, code := prog_12_method_7_code, exceptionTable := #[], attributes := #[] }
def k4m5 : Method := { name := "moveDown", desc := "(II)V", sig := { parameters := [.int, .int], returnType := none }, accessFlags := 2, code := some k4c5 }
def k4c6 : Code := { maxStack := 3, maxLocals := 3, code := prog_12_method_8_code, exceptionTable := #[], attributes := #[] }
def k4m6 : Method := { name := "unlinkRemoved", desc := "()V", sig := { parameters := [], returnType := none }, accessFlags := 2, code := some k4c6 }
def k4c7 : Code := { maxStack := 4, maxLocals := 6, code := prog_12_method_9_code, exceptionTable := #[], attributes := #[] }
def k4m7 : Method := { name := "unlink", desc := "(Lcom/example/charkha/charkha/Timeout;)V", sig := { parameters := [(.object "com/example/charkha/charkha/Timeout")], returnType := none }, accessFlags := 2, code := some k4c7 }
def k4c8 : Code := { maxStack := 7, maxLocals := 6, code := prog_12_method_10_code, exceptionTable := #[], attributes := #[] }
def k4m8 : Method := { name := "file", desc := "(Lcom/example/charkha/charkha/Timeout;)V", sig := { parameters := [(.object "com/example/charkha/charkha/Timeout")], returnType := none }, accessFlags := 2, code := some k4c8 }
def k4c9 : Code := { maxStack := 8, maxLocals := 3, code := prog_12_method_11_code, exceptionTable := #[], attributes := #[] }
def k4m9 : Method := { name := "clear", desc := "(II)V", sig := { parameters := [.int, .int], returnType := none }, accessFlags := 2, code := some k4c9 }
def k4c10 : Code := { maxStack := 5, maxLocals := 3, code := prog_12_method_12_code, exceptionTable := #[], attributes := #[] }
def k4m10 : Method := { name := "levelOf", desc := "(J)I", sig := { parameters := [.long], returnType := some .int }, accessFlags := 2, code := some k4c10 }
def k4c11 : Code := { maxStack := 4, maxLocals := 4, code := prog_12_method_13_code, exceptionTable := #[], attributes := #[] }
def k4m11 : Method := { name := "digit", desc := "(JI)I", sig := { parameters := [.long, .int], returnType := some .int }, accessFlags := 2, code := some k4c11 }
def k4c12 : Code := { maxStack := 2, maxLocals := 2, code := prog_12_method_14_code, exceptionTable := #[], attributes := #[] }
def k4m12 : Method := { name := "lowestFiledLevel", desc := "()I", sig := { parameters := [], returnType := some .int }, accessFlags := 2, code := some k4c12 }
def k4c13 : Code := { maxStack := 5, maxLocals := 4, code := prog_12_method_15_code, exceptionTable := #[], attributes := #[] }
def k4m13 : Method := { name := "firstFiledSlot", desc := "(I)I", sig := { parameters := [.int], returnType := some .int }, accessFlags := 2, code := some k4c13 }
def k4c14 : Code := { maxStack := 6, maxLocals := 6, code := prog_12_method_16_code, exceptionTable := #[], attributes := #[] }
def k4m14 : Method := { name := "slotTick", desc := "(II)J", sig := { parameters := [.int, .int], returnType := some .long }, accessFlags := 2, code := some k4c14 }
/-- com/example/charkha/charkha/Wheels -/
def k4 : Class := { plain "com/example/charkha/charkha/Wheels" (some 0) with
  accessFlags := 32
  interfaces := #[]
  cf := some (fileOf pool4 9 #[] #[{ accessFlags := 0, nameIndex := 7, descriptorIndex := 133, attributes := #[] }, { accessFlags := 0, nameIndex := 136, descriptorIndex := 137, attributes := #[] }, { accessFlags := 0, nameIndex := 138, descriptorIndex := 62, attributes := #[] }, { accessFlags := 0, nameIndex := 140, descriptorIndex := 141, attributes := #[] }, { accessFlags := 0, nameIndex := 142, descriptorIndex := 143, attributes := #[] }, { accessFlags := 2, nameIndex := 85, descriptorIndex := 86, attributes := #[] }, { accessFlags := 2, nameIndex := 68, descriptorIndex := 8, attributes := #[] }, { accessFlags := 2, nameIndex := 89, descriptorIndex := 62, attributes := #[] }, { accessFlags := 2, nameIndex := 61, descriptorIndex := 62, attributes := #[] }, { accessFlags := 2, nameIndex := 103, descriptorIndex := 86, attributes := #[] }, { accessFlags := 2, nameIndex := 109, descriptorIndex := 28, attributes := #[] }, { accessFlags := 2, nameIndex := 112, descriptorIndex := 113, attributes := #[] }, { accessFlags := 2, nameIndex := 71, descriptorIndex := 72, attributes := #[] }, { accessFlags := 2, nameIndex := 77, descriptorIndex := 78, attributes := #[] }, { accessFlags := 2, nameIndex := 81, descriptorIndex := 82, attributes := #[] }] 32 4 #[] #[{ accessFlags := 24, nameIndex := 129, descriptorIndex := 24, attributes := #[] }, { accessFlags := 26, nameIndex := 131, descriptorIndex := 20, attributes := #[] }, { accessFlags := 18, nameIndex := 19, descriptorIndex := 20, attributes := #[] }, { accessFlags := 18, nameIndex := 23, descriptorIndex := 24, attributes := #[] }, { accessFlags := 18, nameIndex := 31, descriptorIndex := 20, attributes := #[] }, { accessFlags := 18, nameIndex := 35, descriptorIndex := 36, attributes := #[] }, { accessFlags := 18, nameIndex := 41, descriptorIndex := 42, attributes := #[] }, { accessFlags := 18, nameIndex := 45, descriptorIndex := 46, attributes := #[] }, { accessFlags := 18, nameIndex := 15, descriptorIndex := 16, attributes := #[] }, { accessFlags := 2, nameIndex := 65, descriptorIndex := 20, attributes := #[] }, { accessFlags := 2, nameIndex := 49, descriptorIndex := 24, attributes := #[] }])
  fields := #[{ name := "NONE", type := .long, accessFlags := 24, slot := 0, constantValue := 0 }, { name := "REMOVAL_BATCH", type := .int, accessFlags := 26, slot := 1, constantValue := 0 }, { name := "shift", type := .int, accessFlags := 18, slot := 0, constantValue := 0 }, { name := "digitMask", type := .long, accessFlags := 18, slot := 1, constantValue := 0 }, { name := "bits", type := .int, accessFlags := 18, slot := 2, constantValue := 0 }, { name := "slots", type := (.array (.array (.object "com/example/charkha/charkha/Timeout"))), accessFlags := 18, slot := 3, constantValue := 0 }, { name := "filed", type := (.array (.array .long)), accessFlags := 18, slot := 4, constantValue := 0 }, { name := "filedSlots", type := (.array .int), accessFlags := 18, slot := 5, constantValue := 0 }, { name := "removed", type := (.array (.object "com/example/charkha/charkha/Timeout")), accessFlags := 18, slot := 6, constantValue := 0 }, { name := "removedCount", type := .int, accessFlags := 2, slot := 7, constantValue := 0 }, { name := "tick", type := .long, accessFlags := 2, slot := 8, constantValue := 0 }]
  methods := #[k4m0, k4m1, k4m2, k4m3, k4m4, k4m5, k4m6, k4m7, k4m8, k4m9, k4m10, k4m11, k4m12, k4m13, k4m14]
  instanceTypes := #[.int, .long, .int, (.array (.array (.object "com/example/charkha/charkha/Timeout"))), (.array (.array .long)), (.array .int), (.array (.object "com/example/charkha/charkha/Timeout")), .int, .long]
  staticTypes := #[.long, .int]
  resolved := Array.replicate 163 none
  statics := none }

def pool5 : Array CpInfo := pool [(1, .class_ 2), (0, u "java/io/Serializable"), (0, .class_ 4), (0, u "java/lang/Object")] 2

/-- java/io/Serializable -/
def k5 : Class := { plain "java/io/Serializable" (some 0) with
  accessFlags := 1537
  interfaces := #[]
  cf := some (fileOf pool5 1 #[] #[] 1537 3 #[] #[])
  fields := #[]
  methods := #[]
  instanceTypes := #[]
  staticTypes := #[]
  resolved := Array.replicate 7 none
  statics := none }

def pool6 : Array CpInfo := pool [(2, .class_ 4), (1, u "java/lang/Object"), (0, u "<init>"), (0, u "()V"), (1, .class_ 10), (1, u "java/lang/Number"), (2, .class_ 14), (0, u "java/io/Serializable"), (0, u "serialVersionUID"), (0, u "J")] 20

def k6m0 : Method := { name := "<init>", desc := "()V", sig := { parameters := [], returnType := none }, accessFlags := 1, code := none }
/-- java/lang/Number -/
def k6 : Class := { plain "java/lang/Number" (some 0) with
  accessFlags := 1057
  interfaces := #[5]
  cf := some (fileOf pool6 8 #[] #[{ accessFlags := 1, nameIndex := 5, descriptorIndex := 6, attributes := #[] }] 1057 2 #[13] #[{ accessFlags := 26, nameIndex := 15, descriptorIndex := 16, attributes := #[] }])
  fields := #[{ name := "serialVersionUID", type := .long, accessFlags := 26, slot := 0, constantValue := 0 }]
  methods := #[k6m0]
  instanceTypes := #[]
  staticTypes := #[.long]
  resolved := Array.replicate 37 none
  statics := none }

def pool7 : Array CpInfo := pool [(1, .class_ 2), (0, u "java/lang/Comparable"), (0, .class_ 4), (0, u "java/lang/Object")] 7

/-- java/lang/Comparable -/
def k7 : Class := { plain "java/lang/Comparable" (some 0) with
  accessFlags := 1537
  interfaces := #[]
  cf := some (fileOf pool7 1 #[] #[] 1537 3 #[] #[])
  fields := #[]
  methods := #[]
  instanceTypes := #[]
  staticTypes := #[]
  resolved := Array.replicate 12 none
  statics := none }

def pool8 : Array CpInfo := pool [(1, .class_ 2), (0, u "java/lang/constant/Constable"), (0, .class_ 4), (0, u "java/lang/Object")] 6

/-- java/lang/constant/Constable -/
def k8 : Class := { plain "java/lang/constant/Constable" (some 0) with
  accessFlags := 1537
  interfaces := #[]
  cf := some (fileOf pool8 1 #[] #[] 1537 3 #[] #[])
  fields := #[]
  methods := #[]
  instanceTypes := #[]
  staticTypes := #[]
  resolved := Array.replicate 11 none
  statics := none }

def pool9 : Array CpInfo := pool [(1, .class_ 2), (0, u "java/lang/constant/ConstantDesc"), (0, .class_ 4), (0, u "java/lang/Object")] 32

/-- java/lang/constant/ConstantDesc -/
def k9 : Class := { plain "java/lang/constant/ConstantDesc" (some 0) with
  accessFlags := 1537
  interfaces := #[]
  cf := some (fileOf pool9 1 #[] #[] 1537 3 #[] #[])
  fields := #[]
  methods := #[]
  instanceTypes := #[]
  staticTypes := #[]
  resolved := Array.replicate 37 none
  statics := none }

def pool10 : Array CpInfo := pool [(1, .class_ 2), (0, u "java/lang/Long"), (15, .class_ 20), (1, u "java/lang/Integer"), (79, u "numberOfLeadingZeros"), (0, u "(J)I"), (133, .class_ 237), (1, u "java/lang/Long$LongCache"), (33, .class_ 272), (0, u "java/lang/Number"), (2, u "value"), (0, u "J"), (31, .methodref 18 309), (0, .nameAndType 100 310), (0, u "(I)I"), (0, .methodref 18 312), (0, .nameAndType 313 310), (0, u "numberOfTrailingZeros"), (47, u "TYPE"), (0, u "Ljava/lang/Class;"), (0, .class_ 364), (0, u "java/lang/Comparable"), (0, .class_ 366), (0, u "java/lang/constant/Constable"), (0, .class_ 368), (0, u "java/lang/constant/ConstantDesc"), (0, u "MIN_VALUE"), (1, u "MAX_VALUE"), (4, u "SIZE"), (0, u "I"), (1, u "BYTES"), (1, u "serialVersionUID")] 142

def k10c0 : Code := { maxStack := 3, maxLocals := 3, code := jdk_35_method_48_code, exceptionTable := #[], attributes := #[] }
def k10m0 : Method := { name := "numberOfLeadingZeros", desc := "(J)I", sig := { parameters := [.long], returnType := some .int }, accessFlags := 9, code := some k10c0 }
def k10c1 : Code := { maxStack := 4, maxLocals := 3, code := jdk_35_method_49_code, exceptionTable := #[], attributes := #[] }
def k10m1 : Method := { name := "numberOfTrailingZeros", desc := "(J)I", sig := { parameters := [.long], returnType := some .int }, accessFlags := 9, code := some k10c1 }
/-- java/lang/Long -/
def k10 : Class := { plain "java/lang/Long" (some 6) with
  accessFlags := 49
  interfaces := #[7, 8, 9]
  cf := some (fileOf pool10 1 #[.nestMembers #[235]] #[{ accessFlags := 9, nameIndex := 100, descriptorIndex := 101, attributes := #[] }, { accessFlags := 9, nameIndex := 313, descriptorIndex := 101, attributes := #[] }] 49 271 #[363, 365, 367] #[{ accessFlags := 25, nameIndex := 369, descriptorIndex := 276, attributes := #[] }, { accessFlags := 25, nameIndex := 371, descriptorIndex := 276, attributes := #[] }, { accessFlags := 25, nameIndex := 361, descriptorIndex := 362, attributes := #[] }, { accessFlags := 18, nameIndex := 275, descriptorIndex := 276, attributes := #[] }, { accessFlags := 25, nameIndex := 376, descriptorIndex := 377, attributes := #[] }, { accessFlags := 25, nameIndex := 379, descriptorIndex := 377, attributes := #[] }, { accessFlags := 26, nameIndex := 381, descriptorIndex := 276, attributes := #[] }])
  fields := #[{ name := "MIN_VALUE", type := .long, accessFlags := 25, slot := 0, constantValue := 0 }, { name := "MAX_VALUE", type := .long, accessFlags := 25, slot := 1, constantValue := 0 }, { name := "TYPE", type := (.object "java/lang/Class"), accessFlags := 25, slot := 2, constantValue := 0 }, { name := "value", type := .long, accessFlags := 18, slot := 0, constantValue := 0 }, { name := "SIZE", type := .int, accessFlags := 25, slot := 3, constantValue := 0 }, { name := "BYTES", type := .int, accessFlags := 25, slot := 4, constantValue := 0 }, { name := "serialVersionUID", type := .long, accessFlags := 26, slot := 5, constantValue := 0 }]
  methods := #[k10m0, k10m1]
  instanceTypes := #[.long]
  staticTypes := #[.long, .long, (.object "java/lang/Class"), .int, .int, .long]
  resolved := Array.replicate 524 none
  statics := none }

def pool11 : Array CpInfo := pool [(1, .class_ 2), (0, u "java/lang/Integer"), (16, u "digits"), (0, u "[C"), (32, u "numberOfLeadingZeros"), (0, u "(I)I"), (30, u "DigitOnes"), (0, u "[B"), (2, u "DigitTens"), (99, .class_ 190), (0, u "java/lang/Integer$IntegerCache"), (3, u "I"), (8, .class_ 204), (0, u "java/lang/Number"), (2, u "value"), (56, .integer 65536), (37, u "TYPE"), (0, u "Ljava/lang/Class;"), (0, .class_ 305), (0, u "java/lang/Comparable"), (0, .class_ 307), (0, u "java/lang/constant/Constable"), (0, .class_ 309), (0, u "java/lang/constant/ConstantDesc"), (0, u "MIN_VALUE"), (1, u "MAX_VALUE"), (3, u "SIZE"), (1, u "BYTES"), (1, u "serialVersionUID"), (0, u "J"), (84, u "numberOfTrailingZeros")] 46

def k11c0 : Code := { maxStack := 3, maxLocals := 2, code := jdk_33_method_47_code, exceptionTable := #[], attributes := #[] }
def k11m0 : Method := { name := "numberOfLeadingZeros", desc := "(I)I", sig := { parameters := [.int], returnType := some .int }, accessFlags := 9, code := some k11c0 }
def k11c1 : Code := { maxStack := 3, maxLocals := 2, code := jdk_33_method_48_code, exceptionTable := #[], attributes := #[] }
def k11m1 : Method := { name := "numberOfTrailingZeros", desc := "(I)I", sig := { parameters := [.int], returnType := some .int }, accessFlags := 9, code := some k11c1 }
/-- java/lang/Integer -/
def k11 : Class := { plain "java/lang/Integer" (some 6) with
  accessFlags := 49
  interfaces := #[7, 8, 9]
  cf := some (fileOf pool11 1 #[.nestMembers #[189]] #[{ accessFlags := 9, nameIndex := 53, descriptorIndex := 54, attributes := #[] }, { accessFlags := 9, nameIndex := 406, descriptorIndex := 54, attributes := #[] }] 49 203 #[304, 306, 308] #[{ accessFlags := 25, nameIndex := 310, descriptorIndex := 194, attributes := #[] }, { accessFlags := 25, nameIndex := 312, descriptorIndex := 194, attributes := #[] }, { accessFlags := 25, nameIndex := 302, descriptorIndex := 303, attributes := #[] }, { accessFlags := 24, nameIndex := 19, descriptorIndex := 20, attributes := #[] }, { accessFlags := 24, nameIndex := 89, descriptorIndex := 86, attributes := #[] }, { accessFlags := 24, nameIndex := 85, descriptorIndex := 86, attributes := #[] }, { accessFlags := 18, nameIndex := 207, descriptorIndex := 194, attributes := #[] }, { accessFlags := 25, nameIndex := 316, descriptorIndex := 194, attributes := #[] }, { accessFlags := 25, nameIndex := 318, descriptorIndex := 194, attributes := #[] }, { accessFlags := 26, nameIndex := 320, descriptorIndex := 321, attributes := #[] }])
  fields := #[{ name := "MIN_VALUE", type := .int, accessFlags := 25, slot := 0, constantValue := 0 }, { name := "MAX_VALUE", type := .int, accessFlags := 25, slot := 1, constantValue := 0 }, { name := "TYPE", type := (.object "java/lang/Class"), accessFlags := 25, slot := 2, constantValue := 0 }, { name := "digits", type := (.array .char), accessFlags := 24, slot := 3, constantValue := 0 }, { name := "DigitTens", type := (.array .byte), accessFlags := 24, slot := 4, constantValue := 0 }, { name := "DigitOnes", type := (.array .byte), accessFlags := 24, slot := 5, constantValue := 0 }, { name := "value", type := .int, accessFlags := 18, slot := 0, constantValue := 0 }, { name := "SIZE", type := .int, accessFlags := 25, slot := 6, constantValue := 0 }, { name := "BYTES", type := .int, accessFlags := 25, slot := 7, constantValue := 0 }, { name := "serialVersionUID", type := .long, accessFlags := 26, slot := 8, constantValue := 0 }]
  methods := #[k11m0, k11m1]
  instanceTypes := #[.int]
  staticTypes := #[.int, .int, (.object "java/lang/Class"), (.array .char), (.array .byte), (.array .byte), .int, .int, .long]
  resolved := Array.replicate 453 none
  statics := none }

def pool12 : Array CpInfo := pool [(1, u "java/lang/Cloneable"), (0, .class_ 1), (0, u "java/lang/Object"), (0, .class_ 3)] 3

/-- java/lang/Cloneable -/
def k12 : Class := { plain "java/lang/Cloneable" (some 0) with
  accessFlags := 1537
  interfaces := #[]
  cf := some (fileOf pool12 2 #[] #[] 1537 4 #[] #[])
  fields := #[]
  methods := #[]
  instanceTypes := #[]
  staticTypes := #[]
  resolved := Array.replicate 8 none
  statics := none }

/-- the primitive byte -/
def k13 : Class := { plain "byte" none with kind := .primitive 'B', accessFlags := 0x411 }
/-- [B -/
def k14 : Class := { plain "[B" (some 0) with kind := .array 13 .byte, interfaces := #[12, 5], accessFlags := 1041 }

/-- the primitive int -/
def k15 : Class := { plain "int" none with kind := .primitive 'I', accessFlags := 0x411 }
/-- [I -/
def k16 : Class := { plain "[I" (some 0) with kind := .array 15 .int, interfaces := #[12, 5], accessFlags := 1041 }

/-- the primitive long -/
def k17 : Class := { plain "long" none with kind := .primitive 'J', accessFlags := 0x411 }
/-- [J -/
def k18 : Class := { plain "[J" (some 0) with kind := .array 17 .long, interfaces := #[12, 5], accessFlags := 1041 }

/-- [Lcom/example/charkha/charkha/Timeout; -/
def k19 : Class := { plain "[Lcom/example/charkha/charkha/Timeout;" (some 0) with kind := .array 3 (.object "com/example/charkha/charkha/Timeout"), interfaces := #[12, 5], accessFlags := 1041 }

def heap : Heap := #[]
def k20 : Class := { plain "[[Lcom/example/charkha/charkha/Timeout;" (some 0) with kind := .array 19 (.array (.object "com/example/charkha/charkha/Timeout")), interfaces := #[12, 5], accessFlags := 1041 }
def k21 : Class := { plain "[[J" (some 0) with kind := .array 18 (.array .long), interfaces := #[12, 5], accessFlags := 1041 }
def classes : Array Class := #[k0, k1, k2, k3, k4, k5, k6, k7, k8, k9, k10, k11, k12, k13, k14, k15, k16, k17, k18, k19, k20, k21]
def interned : List (Array UInt16 × Addr) := []
def slotsUsed : Nat := 0
def theMethod : MethodId := ⟨1, 3⟩
def args0 : Array Value := #[.int 2, .long 100, .long 5, .long 7, .long 9, .long 3]
def aboutOver (below : List Frame) : State where
  vm := { classes := classes, interned := interned.toArray }
  heap := heap
  slotsUsed := slotsUsed
  threads := #[{ frames := .invoking theMethod args0 :: below }]
def below0 : List Frame := [.native { method := ⟨0, 0⟩, args := #[] }]
def about1 : State := aboutOver below0
def p0 : Program := .bare "" "" ""
def e0 : Env := launch0.env 0 0 0
theorem w_frames : about1.frames = Frame.invoking theMethod args0 :: below0 := rfl
set_option maxRecDepth 65536 in
theorem w_args : argsFit about1.vm theMethod args0 = true := by decide +kernel
set_option maxRecDepth 65536 in
theorem w_heap : heapFits about1 = true := by decide +kernel
set_option maxRecDepth 65536 in
theorem w_runnable : about1.curStatus? = some .runnable := by decide +kernel
set_option maxRecDepth 65536 in
theorem w_alone : about1.alone = true := by decide +kernel
set_option maxRecDepth 65536 in
theorem w_named : about1.methodNamed? x = some theMethod := by decide +kernel
set_option maxRecDepth 65536 in
theorem w_hears : about1.hears theMethod below0 = true := by decide +kernel
set_option maxRecDepth 65536 in
theorem w_ripe : about1.ripe theMethod args0 below0 = true := by decide +kernel
theorem w_running : about1.status = .running := rfl
set_option maxRecDepth 65536 in
theorem w_room : about1.hasRoom e0.platform room_1 = true :=
  launch0.hasRoom_least _ room_1 (by decide +kernel) (by decide +kernel) (by decide +kernel) (by decide +kernel) (by decide +kernel) (by decide +kernel)
theorem allAtoms_all (ts : List Jvm.Cond) (a : Array Jvm.Value) (st : Jvm.State) : (allAtoms ts).before a st = ts.all (fun c => c.before a st) := by
  induction ts with
  | nil => rfl
  | cons c t ih =>
    show (Jvm.Cond.and c (allAtoms t)).before a st = _
    rw [Jvm.Cond.before_and, ih, List.all_cons]
def words1 : List Jvm.Cond := Jvm.Cond.code x code maxLocals ret :: tables_1
/-- a 'code' word, met by the world's own term for the bytes: nothing is compared byte by byte -/
theorem code_word {y : MethodName} {bytes : ByteArray} {mx : Nat} {rt : Option FieldType} {a : Array Value} {s : State} {m : MethodId} {meth : Method} {c : Code} (h1 : s.methodNamed? y = some m) (h2 : s.vm.method? m = some meth) (h3 : meth.code = some c) (h4 : c.code = bytes)
    (h5 : (c.maxLocals == mx && c.exceptionTable.isEmpty && decide (c.maxStack ≤ mostOperands) && decide (meth.sig.returnType = rt) && !meth.locks && decide (parseMethodDescriptor y.desc = some meth.sig)) = true) : (Jvm.Cond.code y bytes mx rt).before a s = true := by
  simp only [Bool.and_eq_true, beq_iff_eq, Bool.not_eq_true', decide_eq_true_eq] at h5
  obtain ⟨⟨⟨⟨⟨g1, g2⟩, g3⟩, g4⟩, g5⟩, g6⟩ := h5
  simp [Cond.before, Cond.holds, Cond.value, h1, h2, h3, h4, g1, g2, g3, g4, g5, g6]
def isCode : Jvm.Cond → Bool
  | .code _ _ _ _ => true
  | _ => false
theorem all_split {L : List Jvm.Cond} {P : Jvm.Cond → Bool} (h1 : L.all (fun c => isCode c || P c) = true) (h2 : ∀ c ∈ L.filter isCode, P c = true) : L.all P = true := by
  refine List.all_eq_true.mpr fun c hc => ?_
  have h := List.all_eq_true.mp h1 c hc
  rcases Bool.eq_false_or_eq_true (isCode c) with hi | hi
  · exact h2 c (List.mem_filter.mpr ⟨hc, hi⟩)
  · simpa [hi] using h
set_option maxRecDepth 65536 in
theorem w_c0 : (Jvm.Cond.code x code maxLocals ret).before args0 about1 = true := code_word (m := ⟨1, 3⟩) (meth := k1m3) (c := k1c3) (by decide +kernel) rfl rfl rfl (by decide +kernel)
set_option maxRecDepth 65536 in
theorem w_c1 : (Jvm.Cond.code ({ cls := "java/lang/Math", name := "max", desc := "(JJ)J" } : Jvm.MethodName) jdk_29_method_66_code (4 : Nat) (Option.some Jvm.ClassFile.FieldType.long)).before args0 about1 = true := code_word (m := ⟨2, 1⟩) (meth := k2m1) (c := k2c1) (by decide +kernel) rfl rfl rfl (by decide +kernel)
set_option maxRecDepth 65536 in
theorem w_c2 : (Jvm.Cond.code ({ cls := "com/example/charkha/charkha/Timeout", name := "<init>", desc := "(Lcom/example/charkha/charkha/WheelTimer;Ljava/lang/Runnable;)V" } : Jvm.MethodName) prog_4_method_1_code (3 : Nat) (Option.none : Option Jvm.ClassFile.FieldType)).before args0 about1 = true := code_word (m := ⟨3, 0⟩) (meth := k3m0) (c := k3c0) (by decide +kernel) rfl rfl rfl (by decide +kernel)
set_option maxRecDepth 65536 in
theorem w_c3 : (Jvm.Cond.code ({ cls := "java/lang/Object", name := "<init>", desc := "()V" } : Jvm.MethodName) object_method_1_code (1 : Nat) (Option.none : Option Jvm.ClassFile.FieldType)).before args0 about1 = true := code_word (m := ⟨0, 0⟩) (meth := k0m0) (c := k0c0) (by decide +kernel) rfl rfl rfl (by decide +kernel)
set_option maxRecDepth 65536 in
theorem w_c4 : (Jvm.Cond.code ({ cls := "com/example/charkha/charkha/Wheels", name := "<init>", desc := "(IJ)V" } : Jvm.MethodName) prog_12_method_1_code (5 : Nat) (Option.none : Option Jvm.ClassFile.FieldType)).before args0 about1 = true := code_word (m := ⟨4, 0⟩) (meth := k4m0) (c := k4c0) (by decide +kernel) rfl rfl rfl (by decide +kernel)
set_option maxRecDepth 65536 in
theorem w_c5 : (Jvm.Cond.code ({ cls := "java/lang/Long", name := "numberOfLeadingZeros", desc := "(J)I" } : Jvm.MethodName) jdk_35_method_48_code (3 : Nat) (Option.some Jvm.ClassFile.FieldType.int)).before args0 about1 = true := code_word (m := ⟨10, 0⟩) (meth := k10m0) (c := k10c0) (by decide +kernel) rfl rfl rfl (by decide +kernel)
set_option maxRecDepth 65536 in
theorem w_c6 : (Jvm.Cond.code ({ cls := "java/lang/Integer", name := "numberOfLeadingZeros", desc := "(I)I" } : Jvm.MethodName) jdk_33_method_47_code (2 : Nat) (Option.some Jvm.ClassFile.FieldType.int)).before args0 about1 = true := code_word (m := ⟨11, 0⟩) (meth := k11m0) (c := k11c0) (by decide +kernel) rfl rfl rfl (by decide +kernel)
set_option maxRecDepth 65536 in
theorem w_c7 : (Jvm.Cond.code ({ cls := "com/example/charkha/charkha/Wheels", name := "nextEvent", desc := "()J" } : Jvm.MethodName) prog_12_method_4_code (2 : Nat) (Option.some Jvm.ClassFile.FieldType.long)).before args0 about1 = true := code_word (m := ⟨4, 3⟩) (meth := k4m3) (c := k4c3) (by decide +kernel) rfl rfl rfl (by decide +kernel)
set_option maxRecDepth 65536 in
theorem w_c8 : (Jvm.Cond.code ({ cls := "com/example/charkha/charkha/Wheels", name := "unlinkRemoved", desc := "()V" } : Jvm.MethodName) prog_12_method_8_code (3 : Nat) (Option.none : Option Jvm.ClassFile.FieldType)).before args0 about1 = true := code_word (m := ⟨4, 6⟩) (meth := k4m6) (c := k4c6) (by decide +kernel) rfl rfl rfl (by decide +kernel)
set_option maxRecDepth 65536 in
theorem w_c9 : (Jvm.Cond.code ({ cls := "com/example/charkha/charkha/Wheels", name := "lowestFiledLevel", desc := "()I" } : Jvm.MethodName) prog_12_method_14_code (2 : Nat) (Option.some Jvm.ClassFile.FieldType.int)).before args0 about1 = true := code_word (m := ⟨4, 12⟩) (meth := k4m12) (c := k4c12) (by decide +kernel) rfl rfl rfl (by decide +kernel)
set_option maxRecDepth 65536 in
theorem w_c10 : (Jvm.Cond.code ({ cls := "com/example/charkha/charkha/Wheels", name := "add", desc := "(Lcom/example/charkha/charkha/Timeout;J)V" } : Jvm.MethodName) prog_12_method_2_code (4 : Nat) (Option.none : Option Jvm.ClassFile.FieldType)).before args0 about1 = true := code_word (m := ⟨4, 1⟩) (meth := k4m1) (c := k4c1) (by decide +kernel) rfl rfl rfl (by decide +kernel)
set_option maxRecDepth 65536 in
theorem w_c11 : (Jvm.Cond.code ({ cls := "com/example/charkha/charkha/Wheels", name := "file", desc := "(Lcom/example/charkha/charkha/Timeout;)V" } : Jvm.MethodName) prog_12_method_10_code (6 : Nat) (Option.none : Option Jvm.ClassFile.FieldType)).before args0 about1 = true := code_word (m := ⟨4, 8⟩) (meth := k4m8) (c := k4c8) (by decide +kernel) rfl rfl rfl (by decide +kernel)
set_option maxRecDepth 65536 in
theorem w_c12 : (Jvm.Cond.code ({ cls := "com/example/charkha/charkha/Wheels", name := "levelOf", desc := "(J)I" } : Jvm.MethodName) prog_12_method_12_code (3 : Nat) (Option.some Jvm.ClassFile.FieldType.int)).before args0 about1 = true := code_word (m := ⟨4, 10⟩) (meth := k4m10) (c := k4c10) (by decide +kernel) rfl rfl rfl (by decide +kernel)
set_option maxRecDepth 65536 in
theorem w_c13 : (Jvm.Cond.code ({ cls := "com/example/charkha/charkha/Wheels", name := "digit", desc := "(JI)I" } : Jvm.MethodName) prog_12_method_13_code (4 : Nat) (Option.some Jvm.ClassFile.FieldType.int)).before args0 about1 = true := code_word (m := ⟨4, 11⟩) (meth := k4m11) (c := k4c11) (by decide +kernel) rfl rfl rfl (by decide +kernel)
set_option maxRecDepth 65536 in
theorem w_c14 : (Jvm.Cond.code ({ cls := "java/lang/Math", name := "min", desc := "(II)I" } : Jvm.MethodName) jdk_29_method_69_code (2 : Nat) (Option.some Jvm.ClassFile.FieldType.int)).before args0 about1 = true := code_word (m := ⟨2, 2⟩) (meth := k2m2) (c := k2c2) (by decide +kernel) rfl rfl rfl (by decide +kernel)
set_option maxRecDepth 65536 in
theorem w_c15 : (Jvm.Cond.code ({ cls := "com/example/charkha/charkha/Wheels", name := "firstFiledSlot", desc := "(I)I" } : Jvm.MethodName) prog_12_method_15_code (4 : Nat) (Option.some Jvm.ClassFile.FieldType.int)).before args0 about1 = true := code_word (m := ⟨4, 13⟩) (meth := k4m13) (c := k4c13) (by decide +kernel) rfl rfl rfl (by decide +kernel)
set_option maxRecDepth 65536 in
theorem w_c16 : (Jvm.Cond.code ({ cls := "java/lang/Long", name := "numberOfTrailingZeros", desc := "(J)I" } : Jvm.MethodName) jdk_35_method_49_code (3 : Nat) (Option.some Jvm.ClassFile.FieldType.int)).before args0 about1 = true := code_word (m := ⟨10, 1⟩) (meth := k10m1) (c := k10c1) (by decide +kernel) rfl rfl rfl (by decide +kernel)
set_option maxRecDepth 65536 in
theorem w_c17 : (Jvm.Cond.code ({ cls := "java/lang/Integer", name := "numberOfTrailingZeros", desc := "(I)I" } : Jvm.MethodName) jdk_33_method_48_code (2 : Nat) (Option.some Jvm.ClassFile.FieldType.int)).before args0 about1 = true := code_word (m := ⟨11, 1⟩) (meth := k11m1) (c := k11c1) (by decide +kernel) rfl rfl rfl (by decide +kernel)
set_option maxRecDepth 65536 in
theorem w_c18 : (Jvm.Cond.code ({ cls := "com/example/charkha/charkha/Wheels", name := "slotTick", desc := "(II)J" } : Jvm.MethodName) prog_12_method_16_code (6 : Nat) (Option.some Jvm.ClassFile.FieldType.long)).before args0 about1 = true := code_word (m := ⟨4, 14⟩) (meth := k4m14) (c := k4c14) (by decide +kernel) rfl rfl rfl (by decide +kernel)
set_option maxRecDepth 65536 in
theorem w_c19 : (Jvm.Cond.code ({ cls := "java/lang/Math", name := "min", desc := "(JJ)J" } : Jvm.MethodName) jdk_29_method_70_code (4 : Nat) (Option.some Jvm.ClassFile.FieldType.long)).before args0 about1 = true := code_word (m := ⟨2, 3⟩) (meth := k2m3) (c := k2c3) (by decide +kernel) rfl rfl rfl (by decide +kernel)
set_option maxRecDepth 65536 in
theorem w_c20 : (Jvm.Cond.code ({ cls := "com/example/charkha/charkha/WheelsNextEventPinLaw", name := "eventOf", desc := "(JJI)J" } : Jvm.MethodName) method_3_code (8 : Nat) (Option.some Jvm.ClassFile.FieldType.long)).before args0 about1 = true := code_word (m := ⟨1, 2⟩) (meth := k1m2) (c := k1c2) (by decide +kernel) rfl rfl rfl (by decide +kernel)
set_option maxRecDepth 65536 in
theorem w_c21 : (Jvm.Cond.code ({ cls := "com/example/charkha/charkha/WheelsNextEventPinLaw", name := "highBit", desc := "(J)I" } : Jvm.MethodName) method_2_code (5 : Nat) (Option.some Jvm.ClassFile.FieldType.int)).before args0 about1 = true := code_word (m := ⟨1, 1⟩) (meth := k1m1) (c := k1c1) (by decide +kernel) rfl rfl rfl (by decide +kernel)
set_option maxRecDepth 65536 in
theorem w_c22 : (Jvm.Cond.code ({ cls := "com/example/charkha/charkha/Wheels", name := "remove", desc := "(Lcom/example/charkha/charkha/Timeout;)V" } : Jvm.MethodName) prog_12_method_3_code (2 : Nat) (Option.none : Option Jvm.ClassFile.FieldType)).before args0 about1 = true := code_word (m := ⟨4, 2⟩) (meth := k4m2) (c := k4c2) (by decide +kernel) rfl rfl rfl (by decide +kernel)
set_option maxRecDepth 65536 in
theorem w_c23 : (Jvm.Cond.code ({ cls := "com/example/charkha/charkha/Wheels", name := "unlink", desc := "(Lcom/example/charkha/charkha/Timeout;)V" } : Jvm.MethodName) prog_12_method_9_code (6 : Nat) (Option.none : Option Jvm.ClassFile.FieldType)).before args0 about1 = true := code_word (m := ⟨4, 7⟩) (meth := k4m7) (c := k4c7) (by decide +kernel) rfl rfl rfl (by decide +kernel)
set_option maxRecDepth 65536 in
theorem w_c24 : (Jvm.Cond.code ({ cls := "com/example/charkha/charkha/Wheels", name := "clear", desc := "(II)V" } : Jvm.MethodName) prog_12_method_11_code (3 : Nat) (Option.none : Option Jvm.ClassFile.FieldType)).before args0 about1 = true := code_word (m := ⟨4, 9⟩) (meth := k4m9) (c := k4c9) (by decide +kernel) rfl rfl rfl (by decide +kernel)
set_option maxRecDepth 65536 in
theorem w_c25 : (Jvm.Cond.code ({ cls := "com/example/charkha/charkha/Wheels", name := "poll", desc := "(J)Lcom/example/charkha/charkha/Timeout;" } : Jvm.MethodName) prog_12_method_5_code (8 : Nat) (Option.some (Jvm.ClassFile.FieldType.object "com/example/charkha/charkha/Timeout"))).before args0 about1 = true := code_word (m := ⟨4, 4⟩) (meth := k4m4) (c := k4c4) (by decide +kernel) rfl rfl rfl (by decide +kernel)
set_option maxRecDepth 65536 in
theorem w_c26 : (Jvm.Cond.code ({ cls := "com/example/charkha/charkha/Wheels", name := "moveDown", desc := "(II)V" } : Jvm.MethodName) prog_12_method_7_code (5 : Nat) (Option.none : Option Jvm.ClassFile.FieldType)).before args0 about1 = true := code_word (m := ⟨4, 5⟩) (meth := k4m5) (c := k4c5) (by decide +kernel) rfl rfl rfl (by decide +kernel)
set_option maxRecDepth 65536 in
theorem w_c27 : (Jvm.Cond.code ({ cls := "com/example/charkha/charkha/Timeout", name := "isCancelled", desc := "()Z" } : Jvm.MethodName) prog_4_method_3_code (1 : Nat) (Option.some Jvm.ClassFile.FieldType.boolean)).before args0 about1 = true := code_word (m := ⟨3, 1⟩) (meth := k3m1) (c := k3c1) (by decide +kernel) rfl rfl rfl (by decide +kernel)
def codes1 : List Jvm.Cond := [Jvm.Cond.code x code maxLocals ret, Jvm.Cond.code ({ cls := "java/lang/Math", name := "max", desc := "(JJ)J" } : Jvm.MethodName) jdk_29_method_66_code (4 : Nat) (Option.some Jvm.ClassFile.FieldType.long), Jvm.Cond.code ({ cls := "com/example/charkha/charkha/Timeout", name := "<init>", desc := "(Lcom/example/charkha/charkha/WheelTimer;Ljava/lang/Runnable;)V" } : Jvm.MethodName) prog_4_method_1_code (3 : Nat) (Option.none : Option Jvm.ClassFile.FieldType), Jvm.Cond.code ({ cls := "java/lang/Object", name := "<init>", desc := "()V" } : Jvm.MethodName) object_method_1_code (1 : Nat) (Option.none : Option Jvm.ClassFile.FieldType), Jvm.Cond.code ({ cls := "com/example/charkha/charkha/Wheels", name := "<init>", desc := "(IJ)V" } : Jvm.MethodName) prog_12_method_1_code (5 : Nat) (Option.none : Option Jvm.ClassFile.FieldType), Jvm.Cond.code ({ cls := "java/lang/Long", name := "numberOfLeadingZeros", desc := "(J)I" } : Jvm.MethodName) jdk_35_method_48_code (3 : Nat) (Option.some Jvm.ClassFile.FieldType.int), Jvm.Cond.code ({ cls := "java/lang/Integer", name := "numberOfLeadingZeros", desc := "(I)I" } : Jvm.MethodName) jdk_33_method_47_code (2 : Nat) (Option.some Jvm.ClassFile.FieldType.int), Jvm.Cond.code ({ cls := "com/example/charkha/charkha/Wheels", name := "nextEvent", desc := "()J" } : Jvm.MethodName) prog_12_method_4_code (2 : Nat) (Option.some Jvm.ClassFile.FieldType.long), Jvm.Cond.code ({ cls := "com/example/charkha/charkha/Wheels", name := "unlinkRemoved", desc := "()V" } : Jvm.MethodName) prog_12_method_8_code (3 : Nat) (Option.none : Option Jvm.ClassFile.FieldType), Jvm.Cond.code ({ cls := "com/example/charkha/charkha/Wheels", name := "lowestFiledLevel", desc := "()I" } : Jvm.MethodName) prog_12_method_14_code (2 : Nat) (Option.some Jvm.ClassFile.FieldType.int), Jvm.Cond.code ({ cls := "com/example/charkha/charkha/Wheels", name := "add", desc := "(Lcom/example/charkha/charkha/Timeout;J)V" } : Jvm.MethodName) prog_12_method_2_code (4 : Nat) (Option.none : Option Jvm.ClassFile.FieldType), Jvm.Cond.code ({ cls := "com/example/charkha/charkha/Wheels", name := "file", desc := "(Lcom/example/charkha/charkha/Timeout;)V" } : Jvm.MethodName) prog_12_method_10_code (6 : Nat) (Option.none : Option Jvm.ClassFile.FieldType), Jvm.Cond.code ({ cls := "com/example/charkha/charkha/Wheels", name := "levelOf", desc := "(J)I" } : Jvm.MethodName) prog_12_method_12_code (3 : Nat) (Option.some Jvm.ClassFile.FieldType.int), Jvm.Cond.code ({ cls := "com/example/charkha/charkha/Wheels", name := "digit", desc := "(JI)I" } : Jvm.MethodName) prog_12_method_13_code (4 : Nat) (Option.some Jvm.ClassFile.FieldType.int), Jvm.Cond.code ({ cls := "java/lang/Math", name := "min", desc := "(II)I" } : Jvm.MethodName) jdk_29_method_69_code (2 : Nat) (Option.some Jvm.ClassFile.FieldType.int), Jvm.Cond.code ({ cls := "com/example/charkha/charkha/Wheels", name := "firstFiledSlot", desc := "(I)I" } : Jvm.MethodName) prog_12_method_15_code (4 : Nat) (Option.some Jvm.ClassFile.FieldType.int), Jvm.Cond.code ({ cls := "java/lang/Long", name := "numberOfTrailingZeros", desc := "(J)I" } : Jvm.MethodName) jdk_35_method_49_code (3 : Nat) (Option.some Jvm.ClassFile.FieldType.int), Jvm.Cond.code ({ cls := "java/lang/Integer", name := "numberOfTrailingZeros", desc := "(I)I" } : Jvm.MethodName) jdk_33_method_48_code (2 : Nat) (Option.some Jvm.ClassFile.FieldType.int), Jvm.Cond.code ({ cls := "com/example/charkha/charkha/Wheels", name := "slotTick", desc := "(II)J" } : Jvm.MethodName) prog_12_method_16_code (6 : Nat) (Option.some Jvm.ClassFile.FieldType.long), Jvm.Cond.code ({ cls := "java/lang/Math", name := "min", desc := "(JJ)J" } : Jvm.MethodName) jdk_29_method_70_code (4 : Nat) (Option.some Jvm.ClassFile.FieldType.long), Jvm.Cond.code ({ cls := "com/example/charkha/charkha/WheelsNextEventPinLaw", name := "eventOf", desc := "(JJI)J" } : Jvm.MethodName) method_3_code (8 : Nat) (Option.some Jvm.ClassFile.FieldType.long), Jvm.Cond.code ({ cls := "com/example/charkha/charkha/WheelsNextEventPinLaw", name := "highBit", desc := "(J)I" } : Jvm.MethodName) method_2_code (5 : Nat) (Option.some Jvm.ClassFile.FieldType.int), Jvm.Cond.code ({ cls := "com/example/charkha/charkha/Wheels", name := "remove", desc := "(Lcom/example/charkha/charkha/Timeout;)V" } : Jvm.MethodName) prog_12_method_3_code (2 : Nat) (Option.none : Option Jvm.ClassFile.FieldType), Jvm.Cond.code ({ cls := "com/example/charkha/charkha/Wheels", name := "unlink", desc := "(Lcom/example/charkha/charkha/Timeout;)V" } : Jvm.MethodName) prog_12_method_9_code (6 : Nat) (Option.none : Option Jvm.ClassFile.FieldType), Jvm.Cond.code ({ cls := "com/example/charkha/charkha/Wheels", name := "clear", desc := "(II)V" } : Jvm.MethodName) prog_12_method_11_code (3 : Nat) (Option.none : Option Jvm.ClassFile.FieldType), Jvm.Cond.code ({ cls := "com/example/charkha/charkha/Wheels", name := "poll", desc := "(J)Lcom/example/charkha/charkha/Timeout;" } : Jvm.MethodName) prog_12_method_5_code (8 : Nat) (Option.some (Jvm.ClassFile.FieldType.object "com/example/charkha/charkha/Timeout")), Jvm.Cond.code ({ cls := "com/example/charkha/charkha/Wheels", name := "moveDown", desc := "(II)V" } : Jvm.MethodName) prog_12_method_7_code (5 : Nat) (Option.none : Option Jvm.ClassFile.FieldType), Jvm.Cond.code ({ cls := "com/example/charkha/charkha/Timeout", name := "isCancelled", desc := "()Z" } : Jvm.MethodName) prog_4_method_3_code (1 : Nat) (Option.some Jvm.ClassFile.FieldType.boolean)]
set_option maxRecDepth 65536 in
theorem codes_eq : words1.filter isCode = codes1 := rfl
theorem w_codes : ∀ c ∈ words1.filter isCode, c.before args0 about1 = true := by
  rw [codes_eq]
  intro c hc
  simp only [codes1, List.mem_cons, List.not_mem_nil, or_false] at hc
  rcases hc with rfl | rfl | rfl | rfl | rfl | rfl | rfl | rfl | rfl | rfl | rfl | rfl | rfl | rfl | rfl | rfl | rfl | rfl | rfl | rfl | rfl | rfl | rfl | rfl | rfl | rfl | rfl | rfl
  · exact w_c0
  · exact w_c1
  · exact w_c2
  · exact w_c3
  · exact w_c4
  · exact w_c5
  · exact w_c6
  · exact w_c7
  · exact w_c8
  · exact w_c9
  · exact w_c10
  · exact w_c11
  · exact w_c12
  · exact w_c13
  · exact w_c14
  · exact w_c15
  · exact w_c16
  · exact w_c17
  · exact w_c18
  · exact w_c19
  · exact w_c20
  · exact w_c21
  · exact w_c22
  · exact w_c23
  · exact w_c24
  · exact w_c25
  · exact w_c26
  · exact w_c27
set_option maxRecDepth 65536 in
theorem w_t1 : (words1.take 24).all (fun c => isCode c || c.before args0 about1) = true := by decide +kernel
set_option maxRecDepth 65536 in
theorem w_t2 : ((words1.drop 24).take 24).all (fun c => isCode c || c.before args0 about1) = true := by decide +kernel
set_option maxRecDepth 65536 in
theorem w_t3 : (((words1.drop 24).drop 24).take 24).all (fun c => isCode c || c.before args0 about1) = true := by decide +kernel
set_option maxRecDepth 65536 in
theorem w_t4 : ((((words1.drop 24).drop 24).drop 24).take 24).all (fun c => isCode c || c.before args0 about1) = true := by decide +kernel
set_option maxRecDepth 65536 in
theorem w_t5 : (((((words1.drop 24).drop 24).drop 24).drop 24).take 24).all (fun c => isCode c || c.before args0 about1) = true := by decide +kernel
set_option maxRecDepth 65536 in
theorem w_t6 : ((((((words1.drop 24).drop 24).drop 24).drop 24).drop 24).take 24).all (fun c => isCode c || c.before args0 about1) = true := by decide +kernel
set_option maxRecDepth 65536 in
theorem w_t7 : ((((((words1.drop 24).drop 24).drop 24).drop 24).drop 24).drop 24).all (fun c => isCode c || c.before args0 about1) = true := by decide +kernel
theorem w_tables : (allAtoms (Jvm.Cond.code x code maxLocals ret :: tables_1)).before args0 about1 = true := by
  rw [allAtoms_all]
  show words1.all (fun c => c.before args0 about1) = true
  refine all_split ?_ w_codes
  rw [← List.take_append_drop 24 words1, List.all_append, w_t1, ← List.take_append_drop 24 (words1.drop 24), List.all_append, w_t2, ← List.take_append_drop 24 ((words1.drop 24).drop 24), List.all_append, w_t3, ← List.take_append_drop 24 (((words1.drop 24).drop 24).drop 24), List.all_append, w_t4, ← List.take_append_drop 24 ((((words1.drop 24).drop 24).drop 24).drop 24), List.all_append, w_t5, ← List.take_append_drop 24 (((((words1.drop 24).drop 24).drop 24).drop 24).drop 24), List.all_append, w_t6, w_t7]
  rfl
set_option maxRecDepth 65536 in
theorem w_case : (Jvm.Cond.and given_1 narrow_1).before args0 about1 = true := by decide +kernel
theorem w_applies : (headSpec (Jvm.Cond.code x code maxLocals ret :: tables_1) room_1).applies x e0.platform about1 = true :=
  (Spec.applies_iff w_frames).mpr ⟨w_running, w_runnable, w_alone, w_named, w_hears, w_ripe, w_room, w_tables⟩
theorem atStart : AtStart classFile x code maxLocals ret World_1 tables_1 room_1 Calls_1 rest_1 Pre_1 launch0 p0 e0 about1 theMethod args0 below0 :=
  ⟨lists_1, trivial, launch0.admits_env _ _ _, launch0.least_env, fairChoices_fair.cas, fairChoices_fair.clock, w_frames, w_args, w_heap, w_applies, trivial, trivial, w_case⟩
end start1
theorem witness_1 : WitnessClaimed_1 := ⟨start1.p0, start1.e0, start1.about1, start1.theMethod, start1.args0, start1.below0, start1.atStart⟩
end Jvm.Pilot.@@N@@
