import JvmDerived
import JvmDerived.Pilot.@@N@@Statement
import JvmDerived.Pilot.@@N@@Code
set_option linter.unusedVariables false
set_option linter.unusedSimpArgs false
@@BLOCK:NumsL.lean.txt@@
namespace Jvm.OwnWp
open Jvm Jvm.ClassFile Sem Op Lib Jvm.Free Jvm.Stand Jvm.LawKit Jvm.RoadKit
/-! The heap of a walk as a plain list of the objects that it may touch. -/
abbrev Fd := String × String × String × Value
abbrev Ob := (String × List Fd) ⊕ (FieldType × List Value)
abbrev Hs := List (Addr × Ob)
section Heaps
variable {Z : State} {a0 : Array Value} {h h' h0 : Heap} {a b : Addr} {sl : Nat} {v : Value} {o o' : Ob} {os os' rest : Hs} {dm fp fp2 : List Addr}
def ObAt (Z : State) (a0 : Array Value) (h : Heap) (a : Addr) : Ob → Prop
  | .inl x => Exa Z h a x.1 ∧ (x.2.map (·.2.1)).Nodup ∧ ∀ q ∈ x.2, Fld Z h a q.1 q.2.1 q.2.2.1 q.2.2.2 ∧ Laid Z a0 x.1 q.1 q.2.1 q.2.2.1 ∧ ∃ t, parseFieldDescriptor q.2.2.1 = some t
  | .inr x => ∃ c : Cell, Arr Z h a c x.1 ∧ c.slots.toList = x.2 ∧ Exa Z h a ("[" ++ x.1.toString) ∧ ∀ v ∈ x.2, fits x.1 v = true
theorem ObAt.lt (F : ObAt Z a0 h a o) : a < h.size := by
  cases o with
  | inl x => exact F.1.lt
  | inr x => obtain ⟨c, A, -⟩ := F; exact A.lt
theorem ObAt.move (hm : ∀ c, h[a]? = some c → h'[a]? = some c) (F : ObAt Z a0 h a o) : ObAt Z a0 h' a o := by
  cases o with
  | inl x =>
    obtain ⟨⟨cell, k, h1, r⟩, hn, hq⟩ := F
    refine ⟨⟨cell, k, hm _ h1, r⟩, hn, fun q hq' => ?_⟩
    obtain ⟨⟨cell, cf, k, i, f, h1, r⟩, L⟩ := hq q hq'
    exact ⟨⟨cell, cf, k, i, f, hm _ h1, r⟩, L⟩
  | inr x =>
    obtain ⟨c, A, e, ⟨cell, k, h1, r⟩, hf⟩ := F
    exact ⟨c, ⟨hm _ A.1, A.2⟩, e, ⟨cell, k, hm _ h1, r⟩, hf⟩
theorem ObAt.ext (E : Ext h h') (F : ObAt Z a0 h a o) : ObAt Z a0 h' a o := F.move fun c hc => E.2 _ _ hc
theorem wr_ne (W : Wr h h' a sl v) (hne : b ≠ a) {c : Cell} (hc : h[b]? = some c) : h'[b]? = some c := by
  obtain ⟨cb', h1, -, -, -, h5, -⟩ := wr_at W hc
  rw [h1, h5 hne]
/-- the cells that a walk may write: those of its footprint, and the new ones -/
def Dm (fp : List Addr) (n0 : Nat) (a : Addr) : Prop := a ∈ fp ∨ n0 ≤ a
def Hq (Z : State) (a0 : Array Value) (h : Heap) (os : Hs) : Prop := (os.map (·.1)).Nodup ∧ ∀ q ∈ os, ObAt Z a0 h q.1 q.2
def Hp (Z : State) (a0 : Array Value) (dm fp : List Addr) (h0 h : Heap) (os : Hs) : Prop :=
  Hq Z a0 h os ∧ (∀ q ∈ os, Dm dm h0.size q.1) ∧ h0.size ≤ h.size ∧ ∀ a c, h0[a]? = some c → a ∉ fp → h[a]? = some c
theorem Hp.start (H : Hq Z a0 h os) : Hp Z a0 (os.map (·.1)) fp h h os := ⟨H, fun q hq => Or.inl (List.mem_map.mpr ⟨q, hq, rfl⟩), Nat.le_refl _, fun _ _ q _ => q⟩
theorem Hp.ext (E : Ext h h') (H : Hp Z a0 dm fp h0 h os) : Hp Z a0 dm fp h0 h' os :=
  ⟨⟨H.1.1, fun q hq => (H.1.2 q hq).ext E⟩, H.2.1, Nat.le_trans H.2.2.1 E.1, fun a c q n => E.2 _ _ (H.2.2.2 a c q n)⟩
theorem Hp.push (E : Ext h h') (F : ObAt Z a0 h' h.size o) (H : Hp Z a0 dm fp h0 h os) : Hp Z a0 dm fp h0 h' (os ++ [(h.size, o)]) := by
  have H' := H.ext E
  refine ⟨⟨?_, fun q hq => ?_⟩, fun q hq => ?_, H'.2.2⟩
  · rw [List.map_append, List.nodup_append]
    refine ⟨H.1.1, by simp, fun x hx y hy => ?_⟩
    obtain ⟨q, hq, rfl⟩ := List.mem_map.mp hx
    have := (H.1.2 q hq).lt
    simp only [List.map_cons, List.map_nil, List.mem_singleton] at hy
    intro e
    rw [e, hy] at this
    exact Nat.lt_irrefl _ this
  · rcases List.mem_append.mp hq with hq | hq
    · exact H'.1.2 q hq
    · cases List.mem_singleton.mp hq; exact F
  · rcases List.mem_append.mp hq with hq | hq
    · exact H.2.1 q hq
    · cases List.mem_singleton.mp hq; exact Or.inr H.2.2.1
theorem mem_set {α : Type} {l : List α} {k : Nat} {x q : α} (hq : q ∈ l.set k x) : q = x ∨ ∃ i, i ≠ k ∧ l[i]? = some q := by
  obtain ⟨i, hi⟩ := List.mem_iff_getElem?.mp hq
  rw [List.getElem?_set] at hi
  by_cases e : k = i
  · rw [if_pos e] at hi
    split at hi
    · exact Or.inl (Option.some.inj hi).symm
    · cases hi
  · rw [if_neg e] at hi
    exact Or.inr ⟨i, fun z => e z.symm, hi⟩
theorem nodup_inj {α : Type} {l : List α} (hn : l.Nodup) {i j : Nat} {x : α} (hi : l[i]? = some x) (hj : l[j]? = some x) : i = j := by
  obtain ⟨h1, e1⟩ := List.getElem?_eq_some_iff.mp hi
  obtain ⟨h2, e2⟩ := List.getElem?_eq_some_iff.mp hj
  exact (List.getElem_inj hn).mp (e1.trans e2.symm)
theorem map_at {α β : Type} {l : List α} {f : α → β} {i : Nat} {x : α} (hi : l[i]? = some x) : (l.map f)[i]? = some (f x) := by rw [List.getElem?_map, hi]; rfl
theorem map_set_same {α β : Type} {l : List α} {f : α → β} {k : Nat} {x x' : α} (hk : l[k]? = some x) (e : f x' = f x) : (l.set k x').map f = l.map f := by
  apply List.ext_getElem?
  intro i
  rw [List.getElem?_map, List.getElem?_map, List.getElem?_set]
  by_cases z : k = i
  · subst z
    rw [if_pos rfl]
    have := (List.getElem?_eq_some_iff.mp hk).1
    rw [if_pos this, hk]
    exact congrArg some e
  · rw [if_neg z]
theorem Hp.wr {k : Nat} (hD : Dm fp h0.size a) (W : Wr h h' a sl v) (ho : os[k]? = some (a, o)) (F : ObAt Z a0 h' a o') (H : Hp Z a0 dm fp h0 h os) : Hp Z a0 dm fp h0 h' (os.set k (a, o')) := by
  have hM : Dm dm h0.size a := H.2.1 _ (List.mem_of_getElem? ho)
  refine ⟨⟨?_, fun q hq => ?_⟩, fun q hq => ?_, by rw [W.size]; exact H.2.2.1, fun x c hx hn => ?_⟩
  · rw [map_set_same (f := fun x : Addr × Ob => x.1) (x' := (a, o')) ho rfl]; exact H.1.1
  · rcases mem_set hq with rfl | ⟨i, hi, hq⟩
    · exact F
    · have hne : q.1 ≠ a := fun e => hi (nodup_inj H.1.1 (map_at hq) (by rw [map_at ho, e]))
      exact (H.1.2 q (List.mem_of_getElem? hq)).move fun c hc => wr_ne W hne hc
  · rcases mem_set hq with rfl | ⟨i, hi, hq⟩
    · exact hM
    · exact H.2.1 q (List.mem_of_getElem? hq)
  · refine wr_ne W (fun e => ?_) (H.2.2.2 x c hx hn)
    subst e
    rcases hD with hD | hD
    · exact hn hD
    · exact absurd (Array.getElem?_eq_some_iff.mp hx).1 (Nat.not_lt.mpr hD)
theorem Hp.fld {k : Nat} {C : String} {fs : List Fd} {j : Nat} {O n d : String} {w : Value} (ho : os[k]? = some (a, .inl (C, fs))) (hj : fs[j]? = some (O, n, d, w)) (H : Hp Z a0 dm fp h0 h os) : Fld Z h a O n d w :=
  ((H.1.2 _ (List.mem_of_getElem? ho)).2.2 _ (List.mem_of_getElem? hj)).1
theorem Hp.exa {k : Nat} {C : String} {fs : List Fd} (ho : os[k]? = some (a, .inl (C, fs))) (H : Hp Z a0 dm fp h0 h os) : Exa Z h a C := (H.1.2 _ (List.mem_of_getElem? ho)).1
theorem Hp.putf {k : Nat} {C : String} {fs : List Fd} {j : Nat} {O n d : String} {w : Value} (hD : Dm fp h0.size a) (ho : os[k]? = some (a, .inl (C, fs))) (hj : fs[j]? = some (O, n, d, w)) (W : Wr h h' a (RoadKit.slotOf Z O n d) v) (H : Hp Z a0 dm fp h0 h os) :
    Hp Z a0 dm fp h0 h' (os.set k (a, .inl (C, fs.set j (O, n, d, v)))) := by
  refine H.wr hD W ho ?_
  obtain ⟨hE, hN, hF⟩ := H.1.2 _ (List.mem_of_getElem? ho)
  dsimp only at hE hN hF
  obtain ⟨F, L, t, ht⟩ := hF _ (List.mem_of_getElem? hj)
  refine ⟨hE.wr W, ?_, fun q hq => ?_⟩
  · dsimp only
    rw [map_set_same (f := fun x : Fd => x.2.1) (x' := (O, n, d, v)) hj rfl]; exact hN
  · rcases mem_set hq with rfl | ⟨i, hi, hq⟩
    · exact ⟨F.same W, L, t, ht⟩
    · obtain ⟨F', L', t', ht'⟩ := hF _ (List.mem_of_getElem? hq)
      have hne : q.2.1 ≠ n := fun e => hi (nodup_inj hN (map_at hq) (by rw [map_at hj, e]))
      exact ⟨F'.other W (Or.inr (slot_ne L' L hne ht' ht)), L', t', ht'⟩
theorem Hp.arr {k : Nat} {ty : FieldType} {vs : List Value} (ho : os[k]? = some (a, .inr (ty, vs))) (H : Hp Z a0 dm fp h0 h os) : ∃ c : Cell, Arr Z h a c ty ∧ c.slots.toList = vs := by
  obtain ⟨c, A, e, -⟩ := H.1.2 _ (List.mem_of_getElem? ho)
  exact ⟨c, A, e⟩
theorem Hp.puta {k : Nat} {ty : FieldType} {vs : List Value} {j : Nat} (hD : Dm fp h0.size a) (hf : fits ty v = true) (ho : os[k]? = some (a, .inr (ty, vs))) (W : Wr h h' a j v) (H : Hp Z a0 dm fp h0 h os) : Hp Z a0 dm fp h0 h' (os.set k (a, .inr (ty, vs.set j v))) := by
  refine H.wr hD W ho ?_
  obtain ⟨c, A, e, E, F⟩ := H.1.2 _ (List.mem_of_getElem? ho)
  refine ⟨_, A.same W, ?_, E.wr W, fun q hq => ?_⟩
  · dsimp only at e ⊢
    rw [← e]
    simp [Cell.setSlot]
  · rcases mem_set hq with rfl | ⟨i, -, hq⟩
    · exact hf
    · exact F q (List.mem_of_getElem? hq)
theorem Hp.call (H : Hp Z a0 dm fp h0 h (rest ++ os)) (H' : Hp Z a0 (os.map (·.1)) fp2 h h' os') (hc : fp2 = [] ∨ (fp2 = os.map (·.1) ∧ dm = fp)) : Hp Z a0 dm fp h0 h' (rest ++ os') := by
  have hN := H.1.1
  rw [List.map_append, List.nodup_append] at hN
  have hsub : ∀ x ∈ fp2, x ∈ os.map (·.1) := fun x hx => by
    rcases hc with rfl | ⟨rfl, -⟩
    · exact absurd hx List.not_mem_nil
    · exact hx
  have hD : ∀ x, Dm (os.map (·.1)) h.size x → Dm dm h0.size x := fun x hx => by
    rcases hx with hx | hx
    · obtain ⟨q, hq, rfl⟩ := List.mem_map.mp hx
      exact H.2.1 q (List.mem_append.mpr (Or.inr hq))
    · exact Or.inr (Nat.le_trans H.2.2.1 hx)
  have hR : ∀ q ∈ rest, q.1 ∉ os.map (·.1) := fun q hq hm => hN.2.2 _ (List.mem_map.mpr ⟨q, hq, rfl⟩) _ hm rfl
  refine ⟨⟨?_, fun q hq => ?_⟩, fun q hq => ?_, Nat.le_trans H.2.2.1 H'.2.2.1, fun x c hx hn => ?_⟩
  · rw [List.map_append, List.nodup_append]
    refine ⟨hN.1, H'.1.1, fun x hx y hy e => ?_⟩
    subst e
    obtain ⟨q, hq, rfl⟩ := List.mem_map.mp hx
    obtain ⟨q', hq', e⟩ := List.mem_map.mp hy
    have := H'.2.1 q' hq'
    rw [e] at this
    rcases this with t | t
    · exact hR q hq t
    · exact absurd (H.1.2 q (List.mem_append.mpr (Or.inl hq))).lt (Nat.not_lt.mpr t)
  · rcases List.mem_append.mp hq with hq | hq
    · exact (H.1.2 q (List.mem_append.mpr (Or.inl hq))).move fun c hc => H'.2.2.2 _ _ hc (fun z => hR q hq (hsub _ z))
    · exact H'.1.2 q hq
  · rcases List.mem_append.mp hq with hq | hq
    · exact H.2.1 q (List.mem_append.mpr (Or.inl hq))
    · exact hD _ (H'.2.1 q hq)
  · refine H'.2.2.2 _ _ (H.2.2.2 x c hx hn) fun hm => ?_
    rcases hc with rfl | ⟨rfl, rfl⟩
    · exact absurd hm List.not_mem_nil
    · obtain ⟨q, hq, rfl⟩ := List.mem_map.mp hm
      rcases H.2.1 q (List.mem_append.mpr (Or.inr hq)) with t | t
      · exact hn t
      · exact absurd (Array.getElem?_eq_some_iff.mp hx).1 (Nat.not_lt.mpr t)
theorem pick_mem {is : List Nat} {os2 : Hs} (he : is.map (fun i => os[i]?) = os2.map some) {q : Addr × Ob} (hq : q ∈ os2) : ∃ i ∈ is, os[i]? = some q := by
  have : some q ∈ is.map (fun i => os[i]?) := by rw [he]; exact List.mem_map.mpr ⟨q, hq, rfl⟩
  obtain ⟨i, hi, e⟩ := List.mem_map.mp this
  exact ⟨i, hi, e⟩
theorem pick_nodup (hN : (os.map (·.1)).Nodup) : ∀ {is : List Nat} {os2 : Hs}, is.Nodup → is.map (fun i => os[i]?) = os2.map some → (os2.map (·.1)).Nodup
  | [], [], _, _ => List.nodup_nil
  | [], _ :: _, _, he => by cases he
  | _ :: _, [], _, he => by cases he
  | i :: is, q :: os2, hi, he => by
    simp only [List.map_cons, List.cons.injEq] at he
    rw [List.nodup_cons] at hi
    rw [List.map_cons, List.nodup_cons]
    refine ⟨fun hm => ?_, pick_nodup hN hi.2 he.2⟩
    obtain ⟨q', hq', e⟩ := List.mem_map.mp hm
    obtain ⟨i', hi', e'⟩ := pick_mem he.2 hq'
    have := nodup_inj hN (map_at he.1) (by rw [map_at e', e])
    exact hi.1 (this ▸ hi')
theorem Hp.pick {is : List Nat} {os2 : Hs} (H : Hp Z a0 dm fp h0 h os) (hn : is.Nodup) (he : is.map (fun i => os[i]?) = os2.map some) : Hp Z a0 dm fp h0 h os2 :=
  have hm : ∀ q ∈ os2, q ∈ os := fun q hq => by obtain ⟨i, -, e⟩ := pick_mem he hq; exact List.mem_of_getElem? e
  ⟨⟨pick_nodup H.1.1 hn he, fun q hq => H.1.2 q (hm q hq)⟩, fun q hq => H.2.1 q (hm q hq), H.2.2⟩
end Heaps
/-- what a walk holds at a point -/
def Here (p : Program) (l : Launch) (e : Env) (R : Room) (s : State) (m : MethodId) (args : Array Value) (below : List Frame) (meth : Method) (c : Code) (Z : State) (a0 : Array Value) (y : MethodName) (bytes : ByteArray) (ml : Nat) (ret : Option FieldType) (dm fp : List Addr) (T : State) (k n : Nat) (os : Hs) : Prop :=
  ∃ locs, Stand p l e R s m args below meth c T locs k n ∧ (∀ q ∈ locs, Dm fp s.heap.size q.base) ∧ Hp Z a0 dm fp s.heap T.heap os ∧ p.tables.exec = Jvm.exec ∧ Z.Warmed39 s.vm ∧ c.code = bytes ∧ c.maxLocals = ml ∧ s.vm.findClass y.cls = some m.cls ∧ meth.name = y.name ∧ meth.sig.returnType = ret ∧ meth.locks = false
/-- from here the body returns, and what it leaves is as Post says -/
def Wp (p : Program) (e : Env) (below : List Frame) (Z : State) (a0 : Array Value) (dm fp : List Addr) (R : Room) (s : State) (Post : Option Value → Hs → Prop) (T : State) (g : JFrame) : Prop :=
  ∃ s₂ o, Steps p.tables e below (T.setTop g) s₂ ∧ s₂.status = .running ∧ Ended s₂ below o ∧ ∃ v L, o = .returned v ∧ ((∀ q ∈ L, Dm fp s.heap.size q.base) ∧ ∃ os', Hp Z a0 dm fp s.heap s₂.heap os' ∧ Post v os') ∧ FrameEnd s o s₂ L R.cells R.slots
/-- a body's contract -/
def Pays (l : Launch) (Z : State) (a0 : Array Value) (y : MethodName) (bytes : ByteArray) (ml : Nat) (ret : Option FieldType) (R : Room) (args : Array Value) (os : Hs) (fp : List Addr) (Post : Option Value → Hs → Prop) : Prop :=
  ∀ (ws : List Jvm.Cond) (h0 : Heap), Hq Z a0 h0 os → MetFree l y (head1 (Jvm.Cond.code y bytes ml ret :: ws) R) (fun a U => a = args ∧ Z.Warmed39 U.vm ∧ U.heap = h0) (fun _ _ _ _ _ => True)
    (fun _ U o U' => ∃ v L, o = .returned v ∧ ((∀ q ∈ L, Dm fp h0.size q.base) ∧ ∃ os', Hp Z a0 (os.map (·.1)) fp h0 U'.heap os' ∧ Post v os') ∧ FrameEnd U o U' L R.cells R.slots)
section Walks
variable {p : Program} {l : Launch} {e : Env} {R : Room} {s : State} {m : MethodId} {args : Array Value} {below : List Frame} {meth : Method} {c : Code} {Z : State} {a0 : Array Value} {y : MethodName} {bytes : ByteArray} {ml : Nat} {ret : Option FieldType} {dm fp fp2 : List Addr} {T T' : State} {k n : Nat} {os : Hs} {Post : Option Value → Hs → Prop} {pc : Nat} {Ls : Array Slot} {st rest : List Value}
theorem Wp.go {g g' : JFrame} (hs : ∀ t, Steps p.tables e below (T'.setTop g') t → Steps p.tables e below (T.setTop g) t) (K : Wp p e below Z a0 dm fp R s Post T' g') : Wp p e below Z a0 dm fp R s Post T g := by
  obtain ⟨s₂, o, h1, r⟩ := K
  exact ⟨s₂, o, hs _ h1, r⟩
theorem Here.hr (A : Here p l e R s m args below meth c Z a0 y bytes ml ret dm fp T k n os) : At T m c below := by obtain ⟨_, X, -⟩ := A; exact X.here
theorem Here.hx (A : Here p l e R s m args below meth c Z a0 y bytes ml ret dm fp T k n os) : p.tables.exec = Jvm.exec := by obtain ⟨_, -, -, -, hx, -⟩ := A; exact hx
theorem Here.hb {r : Except DecodeError (Instr × Nat)} (A : Here p l e R s m args below meth c Z a0 y bytes ml ret dm fp T k n os) (hd : decode bytes pc = r) : decode c.code pc = r := by obtain ⟨_, -, -, -, -, -, hb, -⟩ := A; exact hb ▸ hd
theorem Here.pick {is : List Nat} {os2 : Hs} (A : Here p l e R s m args below meth c Z a0 y bytes ml ret dm fp T k n os) (hn : is.Nodup) (he : is.map (fun i => os[i]?) = os2.map some) : Here p l e R s m args below meth c Z a0 y bytes ml ret dm fp T k n os2 := by
  obtain ⟨locs, X, N, H, r⟩ := A
  exact ⟨locs, X, N, H.pick hn he, r⟩
theorem Here.cast {k2 n2 : Nat} {os2 : Hs} (A : Here p l e R s m args below meth c Z a0 y bytes ml ret dm fp T k n os) (h1 : k = k2) (h2 : n = n2) (h3 : os = os2) : Here p l e R s m args below meth c Z a0 y bytes ml ret dm fp T k2 n2 os2 := by
  subst h1 h2 h3
  exact A
theorem Here.more {k2 n2 : Nat} (A : Here p l e R s m args below meth c Z a0 y bytes ml ret dm fp T k n os) (h1 : k ≤ k2) (h2 : n ≤ n2) : Here p l e R s m args below meth c Z a0 y bytes ml ret dm fp T k2 n2 os := by
  obtain ⟨locs, X, r⟩ := A
  exact ⟨locs, X.more h1 h2, r⟩
theorem Here.irem {x z : Int32} (A : Here p l e R s m args below meth c Z a0 y bytes ml ret dm fp T k n os) (hd : decode bytes pc = .ok (.irem, 1)) (hz : z ≠ 0) {qn : Nat} (hq : pc + 1 = qn)
    (K : Wp p e below Z a0 dm fp R s Post T (mkF m qn Ls (.int (x % z) :: rest))) : Wp p e below Z a0 dm fp R s Post T (mkF m pc Ls (.int z :: .int x :: rest)) := by
  subst hq
  have q := irem_eq_mod x z
  exact Wp.go (fun t kt => XS.irem A.hr A.hx rfl (A.hb hd) rfl hz (by rw [q]; exact kt)) K
theorem lrem_eq (x z : Int64) : x - (x / z) * z = x % z := by
  apply Int64.toInt_inj.mp
  rw [Jvm.Kit.i64_rem, Int64.toInt_mod]
theorem Here.lrem {x z : Int64} (A : Here p l e R s m args below meth c Z a0 y bytes ml ret dm fp T k n os) (hd : decode bytes pc = .ok (.lrem, 1)) (hz : z ≠ 0) {qn : Nat} (hq : pc + 1 = qn)
    (K : Wp p e below Z a0 dm fp R s Post T (mkF m qn Ls (.long (x % z) :: rest))) : Wp p e below Z a0 dm fp R s Post T (mkF m pc Ls (.long z :: .long x :: rest)) := by
  subst hq
  have q := lrem_eq x z
  exact Wp.go (fun t kt => XS.lrem A.hr A.hx rfl (A.hb hd) rfl hz (by rw [q]; exact kt)) K
theorem Pays.of (hpl : plainFor y = true) (hef : ∀ m, entryFrame m args ml = mkF m 0 Ls [])
    (body : ∀ p e s m below meth c T, Here p l e R s m args below meth c Z a0 y bytes ml ret (os.map (·.1)) fp T 0 0 os → Wp p e below Z a0 (os.map (·.1)) fp R s Post T (mkF m 0 Ls [])) : Pays l Z a0 y bytes ml ret R args os fp Post := by
  intro ws h0 hq
  refine MetFree.of_bodySF hpl hisR ?_
  intro p e s m args' below meth c s₁ Bd hml0 hP hK
  obtain ⟨rfl, hZ, hh⟩ := hP
  have X0 : Stand p l e R s m args' below meth c s₁ [] 0 0 := Stand.of_body Bd
  have e0 : s₁.heap = s.heap := by rw [Bd.state]; rfl
  subst hh
  obtain ⟨s₂, o, h1, h2, h3, h4⟩ := body p e s m below meth c s₁ ⟨[], X0, fun _ q => (nomatch q), by rw [e0]; exact Hp.start hq, Bd.exec, hZ, Bd.bytes, hml0, findClass_of_methodNamed Bd.named, (name_of_methodNamed Bd.named Bd.method).1, Bd.returns, Bd.notSynchronized⟩
  exact ⟨s₂, o, castTop (hef m) h1, h2, h3, h4⟩
theorem Here.fin {v : Option Value} {g : JFrame} (A : Here p l e R s m args below meth c Z a0 y bytes ml ret dm fp T k n os) (hv : ret = none → v = none) (hk : k ≤ R.cells) (hn : n ≤ R.slots) (hP : Post v os)
    (hs : ∀ (locs : List Loc), Stand p l e R s m args below meth c T locs k n → meth.sig.returnType = ret → ∀ fs : List Frame, (∀ (f : JFrame) (acts : List Action), f.method = m → f.locked = none → f.entered = [] → (doReturn e (T.setTop f) acts v).1 = T.setFrames fs) → Steps p.tables e below (T.setTop g) (T.setFrames fs)) :
    Wp p e below Z a0 dm fp R s Post T g := by
  obtain ⟨locs, X, N, H, hx, hZ, hb, hml, hown, hnm, hret, hlk⟩ := A
  obtain ⟨fs, hr, hrun, hended, hW, hsame⟩ := X.leave (v := v) (fun h => hv (hret ▸ h)) hlk
  exact ⟨_, _, hs locs X hret fs hr, hrun, hended, v, locs, rfl, ⟨N, os, H, hP⟩, ⟨_, rfl⟩, hW, hsame.mono hk hn⟩
theorem Here.retV (A : Here p l e R s m args below meth c Z a0 y bytes ml none dm fp T k n os) (hd : decode bytes pc = .ok (.return_, 1)) (hk : k ≤ R.cells) (hn : n ≤ R.slots) (hP : Post none os) : Wp p e below Z a0 dm fp R s Post T (mkF m pc Ls []) :=
  A.fin (v := none) (fun _ => rfl) hk hn hP fun _ X hret _ hr => X.returnOut A.hx hret (A.hb hd) hr
theorem Here.retT {w : Value} {t : FieldType} {i : Instr} (A : Here p l e R s m args below meth c Z a0 y bytes ml (some t) dm fp T k n os) (hd : decode bytes pc = .ok (i, 1)) (hw : narrow t w = w)
    (hi : (i = .ireturn ∧ (t = .int ∨ t = .boolean ∨ t = .byte ∨ t = .char ∨ t = .short) ∧ ∃ z, w = .int z) ∨ (i = .lreturn ∧ t = .long ∧ ∃ z, w = .long z) ∨ (i = .dreturn ∧ t = .double ∧ ∃ z, w = .double z) ∨ (i = .freturn ∧ t = .float ∧ ∃ z, w = .float z) ∨ (i = .areturn ∧ t.isReference = true ∧ w.isRef = true))
    (hk : k ≤ R.cells) (hn : n ≤ R.slots) (hP : Post (some w) os) : Wp p e below Z a0 dm fp R s Post T (mkF m pc Ls (w :: rest)) :=
  A.fin (v := some w) (fun h => by cases h) hk hn hP fun _ X hret _ hr => retOut X A.hx hret hw hi (A.hb hd) hr
theorem Here.retI {z : Int32} (A : Here p l e R s m args below meth c Z a0 y bytes ml (some .int) dm fp T k n os) (hd : decode bytes pc = .ok (.ireturn, 1)) (hk : k ≤ R.cells) (hn : n ≤ R.slots) (hP : Post (some (.int z)) os) : Wp p e below Z a0 dm fp R s Post T (mkF m pc Ls (.int z :: rest)) :=
  A.retT hd rfl (Or.inl ⟨rfl, Or.inl rfl, z, rfl⟩) hk hn hP
theorem Here.retJ {z : Int64} (A : Here p l e R s m args below meth c Z a0 y bytes ml (some .long) dm fp T k n os) (hd : decode bytes pc = .ok (.lreturn, 1)) (hk : k ≤ R.cells) (hn : n ≤ R.slots) (hP : Post (some (.long z)) os) : Wp p e below Z a0 dm fp R s Post T (mkF m pc Ls (.long z :: rest)) :=
  A.retT hd rfl (Or.inr (Or.inl ⟨rfl, rfl, z, rfl⟩)) hk hn hP
theorem Here.retR {a : Addr} {t : FieldType} (A : Here p l e R s m args below meth c Z a0 y bytes ml (some t) dm fp T k n os) (hd : decode bytes pc = .ok (.areturn, 1)) (ht : t.isReference = true) (hk : k ≤ R.cells) (hn : n ≤ R.slots) (hP : Post (some (.ref a)) os) : Wp p e below Z a0 dm fp R s Post T (mkF m pc Ls (.ref a :: rest)) :=
  A.retT hd (by cases t <;> first | rfl | (cases ht)) (Or.inr (Or.inr (Or.inr (Or.inr ⟨rfl, ht, rfl⟩)))) hk hn hP
/-- of a boolean, byte, char, short: what comes out is narrowed -/
theorem Here.retN {z : Int32} {t : FieldType} (A : Here p l e R s m args below meth c Z a0 y bytes ml (some t) dm fp T k n os) (ht : t = .boolean ∨ t = .byte ∨ t = .char ∨ t = .short) (hd : decode bytes pc = .ok (.ireturn, 1)) (hk : k ≤ R.cells) (hn : n ≤ R.slots) (hP : Post (some (.int (nar t z))) os) : Wp p e below Z a0 dm fp R s Post T (mkF m pc Ls (.int z :: rest)) :=
  A.fin (v := some (.int (nar t z))) (fun h => by cases h) hk hn hP fun _ X hret _ hr => RoadKit.retN X A.hx hret ht (A.hb hd) hr
/-! single instructions (printed by mkops.py) -/
theorem Here.iloadN {j : Fin 4} {v : Int32} {q : Nat} (A : Here p l e R s m args below meth c Z a0 y bytes ml ret dm fp T k n os) (hd : decode bytes pc = .ok (.iload_n j, 1)) (hl : Ls[j.val]? = some (.val (.int v))) (hq : pc + 1 = q) (K : Wp p e below Z a0 dm fp R s Post T (mkF m q Ls (.int v :: st))) : Wp p e below Z a0 dm fp R s Post T (mkF m pc Ls st) := by
  subst hq
  exact Wp.go (fun t kt => XS.iloadN A.hr A.hx rfl (A.hb hd) hl kt) K
theorem Here.iload {j : Nat} {v : Int32} {q : Nat} (A : Here p l e R s m args below meth c Z a0 y bytes ml ret dm fp T k n os) (hd : decode bytes pc = .ok (.iload j, 2)) (hl : Ls[j]? = some (.val (.int v))) (hq : pc + 2 = q) (K : Wp p e below Z a0 dm fp R s Post T (mkF m q Ls (.int v :: st))) : Wp p e below Z a0 dm fp R s Post T (mkF m pc Ls st) := by
  subst hq
  exact Wp.go (fun t kt => XS.iload A.hr A.hx rfl (A.hb hd) hl kt) K
theorem Here.istoreN {j : Fin 4} {v : Int32} {l' : Array Slot} {q : Nat} (A : Here p l e R s m args below meth c Z a0 y bytes ml ret dm fp T k n os) (hd : decode bytes pc = .ok (.istore_n j, 1)) (hl : storeLocals Ls j.val (.int v) = some l') (hq : pc + 1 = q) (K : Wp p e below Z a0 dm fp R s Post T (mkF m q l' rest)) : Wp p e below Z a0 dm fp R s Post T (mkF m pc Ls (.int v :: rest)) := by
  subst hq
  exact Wp.go (fun t kt => XS.istoreN A.hr A.hx rfl (A.hb hd) rfl hl kt) K
theorem Here.istore {j : Nat} {v : Int32} {l' : Array Slot} {q : Nat} (A : Here p l e R s m args below meth c Z a0 y bytes ml ret dm fp T k n os) (hd : decode bytes pc = .ok (.istore j, 2)) (hl : storeLocals Ls j (.int v) = some l') (hq : pc + 2 = q) (K : Wp p e below Z a0 dm fp R s Post T (mkF m q l' rest)) : Wp p e below Z a0 dm fp R s Post T (mkF m pc Ls (.int v :: rest)) := by
  subst hq
  exact Wp.go (fun t kt => XS.istore A.hr A.hx rfl (A.hb hd) rfl hl kt) K
theorem Here.lloadN {j : Fin 4} {v : Int64} {q : Nat} (A : Here p l e R s m args below meth c Z a0 y bytes ml ret dm fp T k n os) (hd : decode bytes pc = .ok (.lload_n j, 1)) (hl : Ls[j.val]? = some (.val (.long v))) (hq : pc + 1 = q) (K : Wp p e below Z a0 dm fp R s Post T (mkF m q Ls (.long v :: st))) : Wp p e below Z a0 dm fp R s Post T (mkF m pc Ls st) := by
  subst hq
  exact Wp.go (fun t kt => XS.lloadN A.hr A.hx rfl (A.hb hd) hl kt) K
theorem Here.lload {j : Nat} {v : Int64} {q : Nat} (A : Here p l e R s m args below meth c Z a0 y bytes ml ret dm fp T k n os) (hd : decode bytes pc = .ok (.lload j, 2)) (hl : Ls[j]? = some (.val (.long v))) (hq : pc + 2 = q) (K : Wp p e below Z a0 dm fp R s Post T (mkF m q Ls (.long v :: st))) : Wp p e below Z a0 dm fp R s Post T (mkF m pc Ls st) := by
  subst hq
  exact Wp.go (fun t kt => XS.lload A.hr A.hx rfl (A.hb hd) hl kt) K
theorem Here.lstoreN {j : Fin 4} {v : Int64} {l' : Array Slot} {q : Nat} (A : Here p l e R s m args below meth c Z a0 y bytes ml ret dm fp T k n os) (hd : decode bytes pc = .ok (.lstore_n j, 1)) (hl : storeLocals Ls j.val (.long v) = some l') (hq : pc + 1 = q) (K : Wp p e below Z a0 dm fp R s Post T (mkF m q l' rest)) : Wp p e below Z a0 dm fp R s Post T (mkF m pc Ls (.long v :: rest)) := by
  subst hq
  exact Wp.go (fun t kt => XS.lstoreN A.hr A.hx rfl (A.hb hd) rfl hl kt) K
theorem Here.lstore {j : Nat} {v : Int64} {l' : Array Slot} {q : Nat} (A : Here p l e R s m args below meth c Z a0 y bytes ml ret dm fp T k n os) (hd : decode bytes pc = .ok (.lstore j, 2)) (hl : storeLocals Ls j (.long v) = some l') (hq : pc + 2 = q) (K : Wp p e below Z a0 dm fp R s Post T (mkF m q l' rest)) : Wp p e below Z a0 dm fp R s Post T (mkF m pc Ls (.long v :: rest)) := by
  subst hq
  exact Wp.go (fun t kt => XS.lstore A.hr A.hx rfl (A.hb hd) rfl hl kt) K
theorem Here.aloadN {j : Fin 4} {v : Value} {q : Nat} (A : Here p l e R s m args below meth c Z a0 y bytes ml ret dm fp T k n os) (hd : decode bytes pc = .ok (.aload_n j, 1)) (hl : Ls[j.val]? = some (.val v)) (hv : v.isRef = true) (hq : pc + 1 = q) (K : Wp p e below Z a0 dm fp R s Post T (mkF m q Ls (v :: st))) : Wp p e below Z a0 dm fp R s Post T (mkF m pc Ls st) := by
  subst hq
  exact Wp.go (fun t kt => XS.aloadN A.hr A.hx rfl (A.hb hd) hl hv kt) K
theorem Here.aload {j : Nat} {v : Value} {q : Nat} (A : Here p l e R s m args below meth c Z a0 y bytes ml ret dm fp T k n os) (hd : decode bytes pc = .ok (.aload j, 2)) (hl : Ls[j]? = some (.val v)) (hv : v.isRef = true) (hq : pc + 2 = q) (K : Wp p e below Z a0 dm fp R s Post T (mkF m q Ls (v :: st))) : Wp p e below Z a0 dm fp R s Post T (mkF m pc Ls st) := by
  subst hq
  exact Wp.go (fun t kt => XS.aload A.hr A.hx rfl (A.hb hd) hl hv kt) K
theorem Here.astoreN {j : Fin 4} {v : Value} {l' : Array Slot} {q : Nat} (A : Here p l e R s m args below meth c Z a0 y bytes ml ret dm fp T k n os) (hd : decode bytes pc = .ok (.astore_n j, 1)) (hv : v.isRef = true) (hl : storeLocals Ls j.val v = some l') (hq : pc + 1 = q) (K : Wp p e below Z a0 dm fp R s Post T (mkF m q l' rest)) : Wp p e below Z a0 dm fp R s Post T (mkF m pc Ls (v :: rest)) := by
  subst hq
  exact Wp.go (fun t kt => XS.astoreN A.hr A.hx rfl (A.hb hd) rfl hv hl kt) K
theorem Here.astore {j : Nat} {v : Value} {l' : Array Slot} {q : Nat} (A : Here p l e R s m args below meth c Z a0 y bytes ml ret dm fp T k n os) (hd : decode bytes pc = .ok (.astore j, 2)) (hv : v.isRef = true) (hl : storeLocals Ls j v = some l') (hq : pc + 2 = q) (K : Wp p e below Z a0 dm fp R s Post T (mkF m q l' rest)) : Wp p e below Z a0 dm fp R s Post T (mkF m pc Ls (v :: rest)) := by
  subst hq
  exact Wp.go (fun t kt => XS.astore A.hr A.hx rfl (A.hb hd) rfl hv hl kt) K
theorem Here.iconst {i : Int} {v : Int32} {q : Nat} (A : Here p l e R s m args below meth c Z a0 y bytes ml ret dm fp T k n os) (hd : decode bytes pc = .ok (.iconst i, 1)) (hv : Int32.ofInt i = v) (hq : pc + 1 = q) (K : Wp p e below Z a0 dm fp R s Post T (mkF m q Ls (.int v :: st))) : Wp p e below Z a0 dm fp R s Post T (mkF m pc Ls st) := by
  subst hq hv
  exact Wp.go (fun t kt => XS.iconst A.hr A.hx rfl (A.hb hd) kt) K
theorem Here.bipush {i : Int} {v : Int32} {q : Nat} (A : Here p l e R s m args below meth c Z a0 y bytes ml ret dm fp T k n os) (hd : decode bytes pc = .ok (.bipush i, 2)) (hv : (Int8.ofInt i).toInt32 = v) (hq : pc + 2 = q) (K : Wp p e below Z a0 dm fp R s Post T (mkF m q Ls (.int v :: st))) : Wp p e below Z a0 dm fp R s Post T (mkF m pc Ls st) := by
  subst hq hv
  exact Wp.go (fun t kt => XS.bipush A.hr A.hx rfl (A.hb hd) kt) K
theorem Here.sipush {i : Int} {v : Int32} {q : Nat} (A : Here p l e R s m args below meth c Z a0 y bytes ml ret dm fp T k n os) (hd : decode bytes pc = .ok (.sipush i, 3)) (hv : (Int16.ofInt i).toInt32 = v) (hq : pc + 3 = q) (K : Wp p e below Z a0 dm fp R s Post T (mkF m q Ls (.int v :: st))) : Wp p e below Z a0 dm fp R s Post T (mkF m pc Ls st) := by
  subst hq hv
  exact Wp.go (fun t kt => XS.sipush A.hr A.hx rfl (A.hb hd) kt) K
theorem Here.lconst {i : Fin 2} {v : Int64} {q : Nat} (A : Here p l e R s m args below meth c Z a0 y bytes ml ret dm fp T k n os) (hd : decode bytes pc = .ok (.lconst i, 1)) (hv : Int64.ofNat i.val = v) (hq : pc + 1 = q) (K : Wp p e below Z a0 dm fp R s Post T (mkF m q Ls (.long v :: st))) : Wp p e below Z a0 dm fp R s Post T (mkF m pc Ls st) := by
  subst hq hv
  exact Wp.go (fun t kt => XS.lconst A.hr A.hx rfl (A.hb hd) kt) K
theorem Here.aconstNull  {q : Nat} (A : Here p l e R s m args below meth c Z a0 y bytes ml ret dm fp T k n os) (hd : decode bytes pc = .ok (.aconst_null, 1)) (hq : pc + 1 = q) (K : Wp p e below Z a0 dm fp R s Post T (mkF m q Ls (.null :: st))) : Wp p e below Z a0 dm fp R s Post T (mkF m pc Ls st) := by
  subst hq
  exact Wp.go (fun t kt => XS.aconstNull A.hr A.hx rfl (A.hb hd)  kt) K
theorem Here.iadd {x z : Int32} {q : Nat} (A : Here p l e R s m args below meth c Z a0 y bytes ml ret dm fp T k n os) (hd : decode bytes pc = .ok (.iadd, 1)) (hq : pc + 1 = q) (K : Wp p e below Z a0 dm fp R s Post T (mkF m q Ls (.int (x + z) :: rest))) : Wp p e below Z a0 dm fp R s Post T (mkF m pc Ls (.int z :: .int x :: rest)) := by
  subst hq
  exact Wp.go (fun t kt => XS.iadd A.hr A.hx rfl (A.hb hd) rfl kt) K
theorem Here.ladd {x z : Int64} {q : Nat} (A : Here p l e R s m args below meth c Z a0 y bytes ml ret dm fp T k n os) (hd : decode bytes pc = .ok (.ladd, 1)) (hq : pc + 1 = q) (K : Wp p e below Z a0 dm fp R s Post T (mkF m q Ls (.long (x + z) :: rest))) : Wp p e below Z a0 dm fp R s Post T (mkF m pc Ls (.long z :: .long x :: rest)) := by
  subst hq
  exact Wp.go (fun t kt => XS.ladd A.hr A.hx rfl (A.hb hd) rfl kt) K
theorem Here.isub {x z : Int32} {q : Nat} (A : Here p l e R s m args below meth c Z a0 y bytes ml ret dm fp T k n os) (hd : decode bytes pc = .ok (.isub, 1)) (hq : pc + 1 = q) (K : Wp p e below Z a0 dm fp R s Post T (mkF m q Ls (.int (x - z) :: rest))) : Wp p e below Z a0 dm fp R s Post T (mkF m pc Ls (.int z :: .int x :: rest)) := by
  subst hq
  exact Wp.go (fun t kt => XS.isub A.hr A.hx rfl (A.hb hd) rfl kt) K
theorem Here.lsub {x z : Int64} {q : Nat} (A : Here p l e R s m args below meth c Z a0 y bytes ml ret dm fp T k n os) (hd : decode bytes pc = .ok (.lsub, 1)) (hq : pc + 1 = q) (K : Wp p e below Z a0 dm fp R s Post T (mkF m q Ls (.long (x - z) :: rest))) : Wp p e below Z a0 dm fp R s Post T (mkF m pc Ls (.long z :: .long x :: rest)) := by
  subst hq
  exact Wp.go (fun t kt => XS.lsub A.hr A.hx rfl (A.hb hd) rfl kt) K
theorem Here.imul {x z : Int32} {q : Nat} (A : Here p l e R s m args below meth c Z a0 y bytes ml ret dm fp T k n os) (hd : decode bytes pc = .ok (.imul, 1)) (hq : pc + 1 = q) (K : Wp p e below Z a0 dm fp R s Post T (mkF m q Ls (.int (x * z) :: rest))) : Wp p e below Z a0 dm fp R s Post T (mkF m pc Ls (.int z :: .int x :: rest)) := by
  subst hq
  exact Wp.go (fun t kt => XS.imul A.hr A.hx rfl (A.hb hd) rfl kt) K
theorem Here.lmul {x z : Int64} {q : Nat} (A : Here p l e R s m args below meth c Z a0 y bytes ml ret dm fp T k n os) (hd : decode bytes pc = .ok (.lmul, 1)) (hq : pc + 1 = q) (K : Wp p e below Z a0 dm fp R s Post T (mkF m q Ls (.long (x * z) :: rest))) : Wp p e below Z a0 dm fp R s Post T (mkF m pc Ls (.long z :: .long x :: rest)) := by
  subst hq
  exact Wp.go (fun t kt => XS.lmul A.hr A.hx rfl (A.hb hd) rfl kt) K
theorem Here.iand {x z : Int32} {q : Nat} (A : Here p l e R s m args below meth c Z a0 y bytes ml ret dm fp T k n os) (hd : decode bytes pc = .ok (.iand, 1)) (hq : pc + 1 = q) (K : Wp p e below Z a0 dm fp R s Post T (mkF m q Ls (.int (x &&& z) :: rest))) : Wp p e below Z a0 dm fp R s Post T (mkF m pc Ls (.int z :: .int x :: rest)) := by
  subst hq
  exact Wp.go (fun t kt => XS.iand A.hr A.hx rfl (A.hb hd) rfl kt) K
theorem Here.land {x z : Int64} {q : Nat} (A : Here p l e R s m args below meth c Z a0 y bytes ml ret dm fp T k n os) (hd : decode bytes pc = .ok (.land, 1)) (hq : pc + 1 = q) (K : Wp p e below Z a0 dm fp R s Post T (mkF m q Ls (.long (x &&& z) :: rest))) : Wp p e below Z a0 dm fp R s Post T (mkF m pc Ls (.long z :: .long x :: rest)) := by
  subst hq
  exact Wp.go (fun t kt => XS.land A.hr A.hx rfl (A.hb hd) rfl kt) K
theorem Here.ior {x z : Int32} {q : Nat} (A : Here p l e R s m args below meth c Z a0 y bytes ml ret dm fp T k n os) (hd : decode bytes pc = .ok (.ior, 1)) (hq : pc + 1 = q) (K : Wp p e below Z a0 dm fp R s Post T (mkF m q Ls (.int (x ||| z) :: rest))) : Wp p e below Z a0 dm fp R s Post T (mkF m pc Ls (.int z :: .int x :: rest)) := by
  subst hq
  exact Wp.go (fun t kt => XS.ior A.hr A.hx rfl (A.hb hd) rfl kt) K
theorem Here.lor {x z : Int64} {q : Nat} (A : Here p l e R s m args below meth c Z a0 y bytes ml ret dm fp T k n os) (hd : decode bytes pc = .ok (.lor, 1)) (hq : pc + 1 = q) (K : Wp p e below Z a0 dm fp R s Post T (mkF m q Ls (.long (x ||| z) :: rest))) : Wp p e below Z a0 dm fp R s Post T (mkF m pc Ls (.long z :: .long x :: rest)) := by
  subst hq
  exact Wp.go (fun t kt => XS.lor A.hr A.hx rfl (A.hb hd) rfl kt) K
theorem Here.ixor {x z : Int32} {q : Nat} (A : Here p l e R s m args below meth c Z a0 y bytes ml ret dm fp T k n os) (hd : decode bytes pc = .ok (.ixor, 1)) (hq : pc + 1 = q) (K : Wp p e below Z a0 dm fp R s Post T (mkF m q Ls (.int (x ^^^ z) :: rest))) : Wp p e below Z a0 dm fp R s Post T (mkF m pc Ls (.int z :: .int x :: rest)) := by
  subst hq
  exact Wp.go (fun t kt => XS.ixor A.hr A.hx rfl (A.hb hd) rfl kt) K
theorem Here.lxor {x z : Int64} {q : Nat} (A : Here p l e R s m args below meth c Z a0 y bytes ml ret dm fp T k n os) (hd : decode bytes pc = .ok (.lxor, 1)) (hq : pc + 1 = q) (K : Wp p e below Z a0 dm fp R s Post T (mkF m q Ls (.long (x ^^^ z) :: rest))) : Wp p e below Z a0 dm fp R s Post T (mkF m pc Ls (.long z :: .long x :: rest)) := by
  subst hq
  exact Wp.go (fun t kt => XS.lxor A.hr A.hx rfl (A.hb hd) rfl kt) K
theorem Here.idiv {x z : Int32} {q : Nat} (A : Here p l e R s m args below meth c Z a0 y bytes ml ret dm fp T k n os) (hd : decode bytes pc = .ok (.idiv, 1)) (hz : z ≠ 0) (hq : pc + 1 = q) (K : Wp p e below Z a0 dm fp R s Post T (mkF m q Ls (.int (x / z) :: rest))) : Wp p e below Z a0 dm fp R s Post T (mkF m pc Ls (.int z :: .int x :: rest)) := by
  subst hq
  exact Wp.go (fun t kt => XS.idiv A.hr A.hx rfl (A.hb hd) rfl hz kt) K
theorem Here.ineg {x : Int32} {q : Nat} (A : Here p l e R s m args below meth c Z a0 y bytes ml ret dm fp T k n os) (hd : decode bytes pc = .ok (.ineg, 1)) (hq : pc + 1 = q) (K : Wp p e below Z a0 dm fp R s Post T (mkF m q Ls (.int (-x) :: rest))) : Wp p e below Z a0 dm fp R s Post T (mkF m pc Ls (.int x :: rest)) := by
  subst hq
  exact Wp.go (fun t kt => XS.ineg A.hr A.hx rfl (A.hb hd) rfl kt) K
theorem Here.ldiv {x z : Int64} {q : Nat} (A : Here p l e R s m args below meth c Z a0 y bytes ml ret dm fp T k n os) (hd : decode bytes pc = .ok (.ldiv, 1)) (hz : z ≠ 0) (hq : pc + 1 = q) (K : Wp p e below Z a0 dm fp R s Post T (mkF m q Ls (.long (x / z) :: rest))) : Wp p e below Z a0 dm fp R s Post T (mkF m pc Ls (.long z :: .long x :: rest)) := by
  subst hq
  exact Wp.go (fun t kt => XS.ldiv A.hr A.hx rfl (A.hb hd) rfl hz kt) K
theorem Here.lneg {x : Int64} {q : Nat} (A : Here p l e R s m args below meth c Z a0 y bytes ml ret dm fp T k n os) (hd : decode bytes pc = .ok (.lneg, 1)) (hq : pc + 1 = q) (K : Wp p e below Z a0 dm fp R s Post T (mkF m q Ls (.long (-x) :: rest))) : Wp p e below Z a0 dm fp R s Post T (mkF m pc Ls (.long x :: rest)) := by
  subst hq
  exact Wp.go (fun t kt => XS.lneg A.hr A.hx rfl (A.hb hd) rfl kt) K
theorem Here.i2l {x : Int32} {q : Nat} (A : Here p l e R s m args below meth c Z a0 y bytes ml ret dm fp T k n os) (hd : decode bytes pc = .ok (.i2l, 1)) (hq : pc + 1 = q) (K : Wp p e below Z a0 dm fp R s Post T (mkF m q Ls (.long (x.toInt64) :: rest))) : Wp p e below Z a0 dm fp R s Post T (mkF m pc Ls (.int x :: rest)) := by
  subst hq
  exact Wp.go (fun t kt => XS.i2l A.hr A.hx rfl (A.hb hd) rfl kt) K
theorem Here.l2i {x : Int64} {q : Nat} (A : Here p l e R s m args below meth c Z a0 y bytes ml ret dm fp T k n os) (hd : decode bytes pc = .ok (.l2i, 1)) (hq : pc + 1 = q) (K : Wp p e below Z a0 dm fp R s Post T (mkF m q Ls (.int (x.toInt32) :: rest))) : Wp p e below Z a0 dm fp R s Post T (mkF m pc Ls (.long x :: rest)) := by
  subst hq
  exact Wp.go (fun t kt => XS.l2i A.hr A.hx rfl (A.hb hd) rfl kt) K
theorem Here.i2b {x : Int32} {q : Nat} (A : Here p l e R s m args below meth c Z a0 y bytes ml ret dm fp T k n os) (hd : decode bytes pc = .ok (.i2b, 1)) (hq : pc + 1 = q) (K : Wp p e below Z a0 dm fp R s Post T (mkF m q Ls (.int (x.toInt8.toInt32) :: rest))) : Wp p e below Z a0 dm fp R s Post T (mkF m pc Ls (.int x :: rest)) := by
  subst hq
  exact Wp.go (fun t kt => XS.i2b A.hr A.hx rfl (A.hb hd) rfl kt) K
theorem Here.i2s {x : Int32} {q : Nat} (A : Here p l e R s m args below meth c Z a0 y bytes ml ret dm fp T k n os) (hd : decode bytes pc = .ok (.i2s, 1)) (hq : pc + 1 = q) (K : Wp p e below Z a0 dm fp R s Post T (mkF m q Ls (.int (x.toInt16.toInt32) :: rest))) : Wp p e below Z a0 dm fp R s Post T (mkF m pc Ls (.int x :: rest)) := by
  subst hq
  exact Wp.go (fun t kt => XS.i2s A.hr A.hx rfl (A.hb hd) rfl kt) K
theorem Here.i2c {x : Int32} {q : Nat} (A : Here p l e R s m args below meth c Z a0 y bytes ml ret dm fp T k n os) (hd : decode bytes pc = .ok (.i2c, 1)) (hq : pc + 1 = q) (K : Wp p e below Z a0 dm fp R s Post T (mkF m q Ls (.int (x.toUInt32.toUInt16.toUInt32.toInt32) :: rest))) : Wp p e below Z a0 dm fp R s Post T (mkF m pc Ls (.int x :: rest)) := by
  subst hq
  exact Wp.go (fun t kt => XS.i2c A.hr A.hx rfl (A.hb hd) rfl kt) K
theorem Here.ishl {x : Int32} {z : Int32} {q : Nat} (A : Here p l e R s m args below meth c Z a0 y bytes ml ret dm fp T k n os) (hd : decode bytes pc = .ok (.ishl, 1)) (hq : pc + 1 = q) (K : Wp p e below Z a0 dm fp R s Post T (mkF m q Ls (.int (x <<< (z &&& 31)) :: rest))) : Wp p e below Z a0 dm fp R s Post T (mkF m pc Ls (.int z :: .int x :: rest)) := by
  subst hq
  exact Wp.go (fun t kt => XS.ishl A.hr A.hx rfl (A.hb hd) rfl kt) K
theorem Here.ishr {x : Int32} {z : Int32} {q : Nat} (A : Here p l e R s m args below meth c Z a0 y bytes ml ret dm fp T k n os) (hd : decode bytes pc = .ok (.ishr, 1)) (hq : pc + 1 = q) (K : Wp p e below Z a0 dm fp R s Post T (mkF m q Ls (.int (x >>> (z &&& 31)) :: rest))) : Wp p e below Z a0 dm fp R s Post T (mkF m pc Ls (.int z :: .int x :: rest)) := by
  subst hq
  exact Wp.go (fun t kt => XS.ishr A.hr A.hx rfl (A.hb hd) rfl kt) K
theorem Here.iushr {x : Int32} {z : Int32} {q : Nat} (A : Here p l e R s m args below meth c Z a0 y bytes ml ret dm fp T k n os) (hd : decode bytes pc = .ok (.iushr, 1)) (hq : pc + 1 = q) (K : Wp p e below Z a0 dm fp R s Post T (mkF m q Ls (.int ((x.toUInt32 >>> (z &&& 31).toUInt32).toInt32) :: rest))) : Wp p e below Z a0 dm fp R s Post T (mkF m pc Ls (.int z :: .int x :: rest)) := by
  subst hq
  exact Wp.go (fun t kt => XS.iushr A.hr A.hx rfl (A.hb hd) rfl kt) K
theorem Here.lshl {x : Int64} {z : Int32} {q : Nat} (A : Here p l e R s m args below meth c Z a0 y bytes ml ret dm fp T k n os) (hd : decode bytes pc = .ok (.lshl, 1)) (hq : pc + 1 = q) (K : Wp p e below Z a0 dm fp R s Post T (mkF m q Ls (.long (x <<< (z &&& 0x3f).toInt64) :: rest))) : Wp p e below Z a0 dm fp R s Post T (mkF m pc Ls (.int z :: .long x :: rest)) := by
  subst hq
  exact Wp.go (fun t kt => XS.lshl A.hr A.hx rfl (A.hb hd) rfl kt) K
theorem Here.lshr {x : Int64} {z : Int32} {q : Nat} (A : Here p l e R s m args below meth c Z a0 y bytes ml ret dm fp T k n os) (hd : decode bytes pc = .ok (.lshr, 1)) (hq : pc + 1 = q) (K : Wp p e below Z a0 dm fp R s Post T (mkF m q Ls (.long (x >>> (z &&& 0x3f).toInt64) :: rest))) : Wp p e below Z a0 dm fp R s Post T (mkF m pc Ls (.int z :: .long x :: rest)) := by
  subst hq
  exact Wp.go (fun t kt => XS.lshr A.hr A.hx rfl (A.hb hd) rfl kt) K
theorem Here.lushr {x : Int64} {z : Int32} {q : Nat} (A : Here p l e R s m args below meth c Z a0 y bytes ml ret dm fp T k n os) (hd : decode bytes pc = .ok (.lushr, 1)) (hq : pc + 1 = q) (K : Wp p e below Z a0 dm fp R s Post T (mkF m q Ls (.long ((x.toUInt64 >>> (z &&& 0x3f).toInt64.toUInt64).toInt64) :: rest))) : Wp p e below Z a0 dm fp R s Post T (mkF m pc Ls (.int z :: .long x :: rest)) := by
  subst hq
  exact Wp.go (fun t kt => XS.lushr A.hr A.hx rfl (A.hb hd) rfl kt) K
theorem Here.lcmp {x z : Int64} {q : Nat} (A : Here p l e R s m args below meth c Z a0 y bytes ml ret dm fp T k n os) (hd : decode bytes pc = .ok (.lcmp, 1)) (hq : pc + 1 = q) (K : Wp p e below Z a0 dm fp R s Post T (mkF m q Ls (.int (lcmpW x z) :: rest))) : Wp p e below Z a0 dm fp R s Post T (mkF m pc Ls (.long z :: .long x :: rest)) := by
  subst hq
  exact Wp.go (fun t kt => XS.lcmp A.hr A.hx rfl (A.hb hd) rfl kt) K
theorem Here.iinc {j : Nat} {i : Int} {x : Int32} {l' : Array Slot} {q : Nat} (A : Here p l e R s m args below meth c Z a0 y bytes ml ret dm fp T k n os) (hd : decode bytes pc = .ok (.iinc j i, 3)) (hl : Ls[j]? = some (.val (.int x))) (hl' : storeLocals Ls j (.int (x + Int32.ofInt i)) = some l') (hq : pc + 3 = q) (K : Wp p e below Z a0 dm fp R s Post T (mkF m q l' st)) : Wp p e below Z a0 dm fp R s Post T (mkF m pc Ls st) := by
  subst hq
  exact Wp.go (fun t kt => XS.iinc A.hr A.hx rfl (A.hb hd) hl hl' kt) K
theorem Here.dup {v : Value} {q : Nat} (A : Here p l e R s m args below meth c Z a0 y bytes ml ret dm fp T k n os) (hd : decode bytes pc = .ok (.dup, 1)) (hv : v.category = 1) (hq : pc + 1 = q) (K : Wp p e below Z a0 dm fp R s Post T (mkF m q Ls (v :: v :: rest))) : Wp p e below Z a0 dm fp R s Post T (mkF m pc Ls (v :: rest)) := by
  subst hq
  exact Wp.go (fun t kt => XS.dup A.hr A.hx rfl (A.hb hd) rfl hv kt) K
theorem Here.pop {v : Value} {q : Nat} (A : Here p l e R s m args below meth c Z a0 y bytes ml ret dm fp T k n os) (hd : decode bytes pc = .ok (.pop, 1)) (hv : v.category = 1) (hq : pc + 1 = q) (K : Wp p e below Z a0 dm fp R s Post T (mkF m q Ls rest)) : Wp p e below Z a0 dm fp R s Post T (mkF m pc Ls (v :: rest)) := by
  subst hq
  exact Wp.go (fun t kt => XS.pop A.hr A.hx rfl (A.hb hd) rfl hv kt) K
theorem Here.dup_x1 {v w : Value} {q : Nat} (A : Here p l e R s m args below meth c Z a0 y bytes ml ret dm fp T k n os) (hd : decode bytes pc = .ok (.dup_x1, 1)) (hv : v.category = 1) (hw : w.category = 1) (hq : pc + 1 = q) (K : Wp p e below Z a0 dm fp R s Post T (mkF m q Ls (v :: w :: v :: rest))) : Wp p e below Z a0 dm fp R s Post T (mkF m pc Ls (v :: w :: rest)) := by
  subst hq
  exact Wp.go (fun t kt => XS.dupX1 A.hr A.hx rfl (A.hb hd) rfl hv hw kt) K
theorem Here.dup2 {v w : Value} {q : Nat} (A : Here p l e R s m args below meth c Z a0 y bytes ml ret dm fp T k n os) (hd : decode bytes pc = .ok (.dup2, 1)) (hv : v.category = 1) (hw : w.category = 1) (hq : pc + 1 = q) (K : Wp p e below Z a0 dm fp R s Post T (mkF m q Ls (v :: w :: v :: w :: rest))) : Wp p e below Z a0 dm fp R s Post T (mkF m pc Ls (v :: w :: rest)) := by
  subst hq
  exact Wp.go (fun t kt => Jvm.Free.XT.dup2 A.hr A.hx rfl (A.hb hd) rfl hv hw kt) K
theorem Here.dup2L {x : Int64} {q : Nat} (A : Here p l e R s m args below meth c Z a0 y bytes ml ret dm fp T k n os) (hd : decode bytes pc = .ok (.dup2, 1)) (hq : pc + 1 = q) (K : Wp p e below Z a0 dm fp R s Post T (mkF m q Ls (.long x :: .long x :: rest))) : Wp p e below Z a0 dm fp R s Post T (mkF m pc Ls (.long x :: rest)) := by
  subst hq
  exact Wp.go (fun t kt => Jvm.Free.XT.dup2L A.hr A.hx rfl (A.hb hd) rfl kt) K
theorem Here.goto {o : Int} {q : Nat} (A : Here p l e R s m args below meth c Z a0 y bytes ml ret dm fp T k n os) (hd : decode bytes pc = .ok (.goto o, 3)) (ho : 0 ≤ (pc : Int) + o) (hq : ((pc : Int) + o).toNat = q) (K : Wp p e below Z a0 dm fp R s Post T (mkF m q Ls st)) : Wp p e below Z a0 dm fp R s Post T (mkF m pc Ls st) :=
  Wp.go (fun t kt => XS.goto A.hr A.hx rfl (pc0 := pc) (pc' := q) rfl (A.hb hd) ho hq kt) K
theorem Here.ifYes {cd : ClassFile.Cond} {o : Int} {x : Int32} {q : Nat} (A : Here p l e R s m args below meth c Z a0 y bytes ml ret dm fp T k n os) (hd : decode bytes pc = .ok (.ifCond cd o, 3)) (hc : ifCond.holds cd x = true) (ho : 0 ≤ (pc : Int) + o) (hq : ((pc : Int) + o).toNat = q) (K : Wp p e below Z a0 dm fp R s Post T (mkF m q Ls rest)) : Wp p e below Z a0 dm fp R s Post T (mkF m pc Ls (.int x :: rest)) :=
  Wp.go (fun t kt => XS.ifYes A.hr A.hx rfl (pc0 := pc) (pc' := q) rfl (A.hb hd) rfl hc ho hq kt) K
theorem Here.ifNo {cd : ClassFile.Cond} {o : Int} {x : Int32} {q : Nat} (A : Here p l e R s m args below meth c Z a0 y bytes ml ret dm fp T k n os) (hd : decode bytes pc = .ok (.ifCond cd o, 3)) (hc : ifCond.holds cd x = false) (hq : pc + 3 = q) (K : Wp p e below Z a0 dm fp R s Post T (mkF m q Ls rest)) : Wp p e below Z a0 dm fp R s Post T (mkF m pc Ls (.int x :: rest)) := by
  subst hq
  exact Wp.go (fun t kt => XS.ifNo A.hr A.hx rfl (A.hb hd) rfl hc kt) K
theorem Here.icmpYes {cd : ClassFile.Cond} {o : Int} {x z : Int32} {q : Nat} (A : Here p l e R s m args below meth c Z a0 y bytes ml ret dm fp T k n os) (hd : decode bytes pc = .ok (.if_icmp cd o, 3)) (hc : if_icmp.holds cd x z = true) (ho : 0 ≤ (pc : Int) + o) (hq : ((pc : Int) + o).toNat = q) (K : Wp p e below Z a0 dm fp R s Post T (mkF m q Ls rest)) : Wp p e below Z a0 dm fp R s Post T (mkF m pc Ls (.int z :: .int x :: rest)) :=
  Wp.go (fun t kt => XS.icmpYes A.hr A.hx rfl (pc0 := pc) (pc' := q) rfl (A.hb hd) rfl hc ho hq kt) K
theorem Here.icmpNo {cd : ClassFile.Cond} {o : Int} {x z : Int32} {q : Nat} (A : Here p l e R s m args below meth c Z a0 y bytes ml ret dm fp T k n os) (hd : decode bytes pc = .ok (.if_icmp cd o, 3)) (hc : if_icmp.holds cd x z = false) (hq : pc + 3 = q) (K : Wp p e below Z a0 dm fp R s Post T (mkF m q Ls rest)) : Wp p e below Z a0 dm fp R s Post T (mkF m pc Ls (.int z :: .int x :: rest)) := by
  subst hq
  exact Wp.go (fun t kt => XS.icmpNo A.hr A.hx rfl (A.hb hd) rfl hc kt) K
theorem Wp.top {v v' : Value} (h : v = v') (K : Wp p e below Z a0 dm fp R s Post T (mkF m pc Ls (v' :: st))) : Wp p e below Z a0 dm fp R s Post T (mkF m pc Ls (v :: st)) := by
  subst h
  exact K
/-! reads and writes -/
theorem Here.getF {O f d R0 : String} {idx i j : Nat} {a : Addr} {C : String} {fs : List Fd} {v : Value} (A : Here p l e R s m args below meth c Z a0 y bytes ml ret dm fp T k n os) (w : (Jvm.Cond.fieldLink y.cls idx R0 f d).before a0 Z = true) (via : Via Z R0 O f d) (hd : decode bytes pc = .ok (.getfield idx, 3)) (ho : os[i]? = some (a, .inl (C, fs))) (hj : fs[j]? = some (O, f, d, v)) {qn : Nat} (hq : pc + 3 = qn)
    (K : ∀ T', Here p l e R s m args below meth c Z a0 y bytes ml ret dm fp T' k n os → Wp p e below Z a0 dm fp R s Post T' (mkF m qn Ls (v :: rest))) : Wp p e below Z a0 dm fp R s Post T (mkF m pc Ls (.ref a :: rest)) := by
  subst hq
  have A' := A
  obtain ⟨locs, X, N, H, hx, hZ, hb, hml, hown, q⟩ := A
  obtain ⟨T1, X1, e1, st1⟩ := RoadKit.getF X hx hZ hown (host := "") (Or.inl w) via rfl (H.fld ho hj) (g := mkF m pc Ls (.ref a :: rest)) rfl rfl (A'.hb hd)
  exact Wp.go st1 (K T1 ⟨locs, X1, N, by rw [e1]; exact H, hx, hZ, hb, hml, hown, q⟩)
theorem Here.putF {O f d R0 : String} {idx i j kk : Nat} {a : Addr} {C : String} {fs : List Fd} {v old : Value} {ty : FieldType} (A : Here p l e R s m args below meth c Z a0 y bytes ml ret dm fp T k n os) (w : (Jvm.Cond.fieldLink y.cls idx R0 f d).before a0 Z = true) (via : Via Z R0 O f d)
    (hL : (Jvm.Cond.lays C O f d).before a0 Z = true ∨ ((Jvm.Cond.laysFinal C O f d).before a0 Z = true ∧ y.cls = O ∧ y.name = "<init>")) (wi : (Jvm.Cond.instantiable C kk).before a0 Z = true) (hty : parseFieldDescriptor d = some ty) (hnw : narrow ty v = v) (hf : fits ty v = true)
    (hd : decode bytes pc = .ok (.putfield idx, 3)) (ho : os[i]? = some (a, .inl (C, fs))) (hj : fs[j]? = some (O, f, d, old)) (hdf : dm = fp) {qn : Nat} (hq : pc + 3 = qn)
    (K : ∀ T', Here p l e R s m args below meth c Z a0 y bytes ml ret dm fp T' k n (os.set i (a, .inl (C, fs.set j (O, f, d, v)))) → Wp p e below Z a0 dm fp R s Post T' (mkF m qn Ls rest)) : Wp p e below Z a0 dm fp R s Post T (mkF m pc Ls (v :: .ref a :: rest)) := by
  subst hq
  have A' := A
  obtain ⟨locs, X, N, H, hx, hZ, hb, hml, hown, hnm, q⟩ := A
  have hD : Dm fp s.heap.size a := hdf ▸ H.2.1 _ (List.mem_of_getElem? ho)
  obtain ⟨T1, h1, X1, e1, W1, st1⟩ := RoadKit.putF X hx hZ hown (host := "") (Or.inl w) via rfl (H.fld ho hj) (H.exa ho) (hL.imp id fun z => ⟨z.1, z.2.1, hnm.trans z.2.2⟩) wi hty hnw hf (g := mkF m pc Ls (v :: .ref a :: rest)) rfl rfl (A'.hb hd)
  refine Wp.go st1 (K T1 ⟨_, X1, fun q hq => ?_, by rw [e1]; exact H.putf hD ho hj W1, hx, hZ, hb, hml, hown, hnm, q⟩)
  rcases List.mem_append.mp hq with hq | hq
  · exact N q hq
  · cases List.mem_singleton.mp hq; exact hD
theorem Here.putFN {O f d R0 : String} {idx i j kk : Nat} {a : Addr} {C : String} {fs : List Fd} {v v' old : Value} {ty : FieldType} (A : Here p l e R s m args below meth c Z a0 y bytes ml ret dm fp T k n os) (w : (Jvm.Cond.fieldLink y.cls idx R0 f d).before a0 Z = true) (via : Via Z R0 O f d)
    (hL : (Jvm.Cond.lays C O f d).before a0 Z = true ∨ ((Jvm.Cond.laysFinal C O f d).before a0 Z = true ∧ y.cls = O ∧ y.name = "<init>")) (wi : (Jvm.Cond.instantiable C kk).before a0 Z = true) (hty : parseFieldDescriptor d = some ty) (hnw : narrow ty v = v') (hf : fits ty v' = true)
    (hd : decode bytes pc = .ok (.putfield idx, 3)) (ho : os[i]? = some (a, .inl (C, fs))) (hj : fs[j]? = some (O, f, d, old)) (hdf : dm = fp) {qn : Nat} (hq : pc + 3 = qn)
    (K : ∀ T', Here p l e R s m args below meth c Z a0 y bytes ml ret dm fp T' k n (os.set i (a, .inl (C, fs.set j (O, f, d, v')))) → Wp p e below Z a0 dm fp R s Post T' (mkF m qn Ls rest)) : Wp p e below Z a0 dm fp R s Post T (mkF m pc Ls (v :: .ref a :: rest)) := by
  subst hq
  have A' := A
  obtain ⟨locs, X, N, H, hx, hZ, hb, hml, hown, hnm, q⟩ := A
  have hD : Dm fp s.heap.size a := hdf ▸ H.2.1 _ (List.mem_of_getElem? ho)
  obtain ⟨T1, h1, X1, e1, W1, st1⟩ := RoadKit.putFN X hx hZ hown w via rfl (H.fld ho hj) (H.exa ho) (hL.imp id fun z => ⟨z.1, z.2.1, hnm.trans z.2.2⟩) wi hty hnw hf (g := mkF m pc Ls (v :: .ref a :: rest)) rfl rfl (A'.hb hd)
  refine Wp.go st1 (K T1 ⟨_, X1, fun q hq => ?_, by rw [e1]; exact H.putf hD ho hj W1, hx, hZ, hb, hml, hown, hnm, q⟩)
  rcases List.mem_append.mp hq with hq | hq
  · exact N q hq
  · cases List.mem_singleton.mp hq; exact hD
theorem Here.newO {idx nn : Nat} {C : String} {fs : List Fd} (A : Here p l e R s m args below meth c Z a0 y bytes ml ret dm fp T k n os) (w : (Jvm.Cond.classLink y.cls idx C).before a0 Z = true) (wi : (Jvm.Cond.instantiable C nn).before a0 Z = true) (wz : (Jvm.Cond.initialized C).before a0 Z = true) (hd : decode bytes pc = .ok (.new idx, 3)) (hc : k + 1 ≤ R.cells) (hl : n + nn ≤ R.slots)
    (hnd : (fs.map (·.2.1)).Nodup) (hfs : ∀ q ∈ fs, Laid Z a0 C q.1 q.2.1 q.2.2.1 ∧ ∃ t, parseFieldDescriptor q.2.2.1 = some t ∧ q.2.2.2 = defaultValue t) {qn : Nat} (hq : pc + 3 = qn)
    (K : ∀ T' a, Here p l e R s m args below meth c Z a0 y bytes ml ret dm fp T' (k + 1) (n + nn) (os ++ [(a, .inl (C, fs))]) → Wp p e below Z a0 dm fp R s Post T' (mkF m qn Ls (.ref a :: st))) : Wp p e below Z a0 dm fp R s Post T (mkF m pc Ls st) := by
  subst hq
  have A' := A
  obtain ⟨locs, X, N, H, hx, hZ, hb, hml, hown, q⟩ := A
  obtain ⟨T1, h1, X1, e1, E1, A1, D1, -, st1⟩ := RoadKit.newO X hx hZ hown w wi wz rfl (g := mkF m pc Ls st) rfl (A'.hb hd) hc hl
  have F1 : ObAt Z a0 h1 T.heap.size (.inl (C, fs)) := ⟨A1, hnd, fun q hq => by
    obtain ⟨L, t, ht, hv⟩ := hfs q hq
    refine ⟨?_, L, t, ht⟩
    rw [hv]
    exact D1 L ht⟩
  exact Wp.go st1 (K T1 _ ⟨_, X1, N, by rw [e1]; exact H.push E1 F1, hx, hZ, hb, hml, hown, q⟩)
theorem Here.newP {aty : ArrayType} {z : Int32} {cap : Nat} (A : Here p l e R s m args below meth c Z a0 y bytes ml ret dm fp T k n os) (w : (Jvm.Cond.arrayClass (newarray.typeOf aty)).before a0 Z = true) (hd : decode bytes pc = .ok (.newarray aty, 2)) (hz : ¬ z < 0) (hcap : z.toNatClampNeg ≤ cap) (hb8 : cap * 8 ≤ 536870912) (hc : k + 1 ≤ R.cells) (hl : n + cap ≤ R.slots) {qn : Nat} (hq : pc + 2 = qn)
    (K : ∀ T' a, Here p l e R s m args below meth c Z a0 y bytes ml ret dm fp T' (k + 1) (n + cap) (os ++ [(a, .inr (newarray.typeOf aty, List.replicate z.toNatClampNeg (defaultValue (newarray.typeOf aty))))]) → Wp p e below Z a0 dm fp R s Post T' (mkF m qn Ls (.ref a :: st))) : Wp p e below Z a0 dm fp R s Post T (mkF m pc Ls (.int z :: st)) := by
  subst hq
  have A' := A
  obtain ⟨locs, X, N, H, hx, hZ, hb, hml, hown, q⟩ := A
  obtain ⟨T1, h1, cA, X1, e1, E1, A1, B1, st1⟩ := RoadKit.newPE X hx hZ w rfl (g := mkF m pc Ls (.int z :: st)) rfl (A'.hb hd) rfl hz hcap hb8 hc hl rfl
  have F1 : ObAt Z a0 h1 T.heap.size (.inr (newarray.typeOf aty, List.replicate z.toNatClampNeg (defaultValue (newarray.typeOf aty)))) := ⟨_, A1, by simp [newA], B1, fun v hv => by
    rw [(List.mem_replicate.mp hv).2]
    cases aty <;> rfl⟩
  exact Wp.go st1 (K T1 _ ⟨_, X1, N, by rw [e1]; exact H.push E1 F1, hx, hZ, hb, hml, hown, q⟩)
theorem inb {vs : List Value} {cl : Cell} {j : Int32} (e : cl.slots.toList = vs) (hj : ¬ j < 0) (hl : j.toNatClampNeg < vs.length) : ¬ (j < 0 ∨ cl.slots.size ≤ j.toNatClampNeg) := by
  subst e
  rw [Array.length_toList] at hl
  rintro (h | h)
  · exact hj h
  · exact absurd hl (Nat.not_lt.mpr h)
theorem Here.stOf {i : Nat} {a : Addr} {ty : FieldType} {vs : List Value} {j : Int32} {v : Value} {g : JFrame} (hf : fits ty v = true) (A : Here p l e R s m args below meth c Z a0 y bytes ml ret dm fp T k n os) (ho : os[i]? = some (a, .inr (ty, vs))) (hj : ¬ j < 0) (hl : j.toNatClampNeg < vs.length) (hdf : dm = fp)
    (S : ∀ (locs : List Loc) (cl : Cell), Stand p l e R s m args below meth c T locs k n → Arr Z T.heap a cl ty → ¬ (j < 0 ∨ cl.slots.size ≤ j.toNatClampNeg) → ∃ T' h', Stand p l e R s m args below meth c T' (locs ++ [⟨a, j.toNatClampNeg⟩]) k n ∧ T'.heap = h' ∧ Wr T.heap h' a j.toNatClampNeg v ∧ ∀ target, Steps p.tables e below (T'.setTop (mkF m (pc + 1) Ls rest)) target → Steps p.tables e below (T.setTop g) target)
    (K : ∀ T', Here p l e R s m args below meth c Z a0 y bytes ml ret dm fp T' k n (os.set i (a, .inr (ty, vs.set j.toNatClampNeg v))) → Wp p e below Z a0 dm fp R s Post T' (mkF m (pc + 1) Ls rest)) : Wp p e below Z a0 dm fp R s Post T g := by
  obtain ⟨locs, X, N, H, q⟩ := A
  obtain ⟨cl, Ar, ec⟩ := H.arr ho
  have hD : Dm fp s.heap.size a := hdf ▸ H.2.1 _ (List.mem_of_getElem? ho)
  obtain ⟨T1, h1, X1, e1, W1, st1⟩ := S locs cl X Ar (inb ec hj hl)
  refine Wp.go st1 (K T1 ⟨_, X1, fun q hq => ?_, by rw [e1]; exact H.puta hD hf ho W1, q⟩)
  rcases List.mem_append.mp hq with hq | hq
  · exact N q hq
  · cases List.mem_singleton.mp hq; exact hD
theorem Here.hz (A : Here p l e R s m args below meth c Z a0 y bytes ml ret dm fp T k n os) : Z.Warmed39 s.vm := by obtain ⟨_, -, -, -, -, hZ, -⟩ := A; exact hZ
theorem Here.stI {i : Nat} {a : Addr} {vs : List Value} {j x : Int32} (A : Here p l e R s m args below meth c Z a0 y bytes ml ret dm fp T k n os) (hd : decode bytes pc = .ok (.iastore, 1)) (ho : os[i]? = some (a, .inr (.int, vs))) (hj : ¬ j < 0) (hl : j.toNatClampNeg < vs.length) (hdf : dm = fp) {qn : Nat} (hq : pc + 1 = qn)
    (K : ∀ T', Here p l e R s m args below meth c Z a0 y bytes ml ret dm fp T' k n (os.set i (a, .inr (.int, vs.set j.toNatClampNeg (.int x)))) → Wp p e below Z a0 dm fp R s Post T' (mkF m qn Ls rest)) : Wp p e below Z a0 dm fp R s Post T (mkF m pc Ls (.int x :: .int j :: .ref a :: rest)) := by
  subst hq
  exact Here.stOf rfl A ho hj hl hdf (fun _ _ X Ar hin => RoadKit.stI X A.hx A.hz rfl Ar hin (g := mkF m pc Ls (.int x :: .int j :: .ref a :: rest)) rfl rfl (A.hb hd)) K
theorem Here.stJ {i : Nat} {a : Addr} {vs : List Value} {j : Int32} {x : Int64} (A : Here p l e R s m args below meth c Z a0 y bytes ml ret dm fp T k n os) (hd : decode bytes pc = .ok (.lastore, 1)) (ho : os[i]? = some (a, .inr (.long, vs))) (hj : ¬ j < 0) (hl : j.toNatClampNeg < vs.length) (hdf : dm = fp) {qn : Nat} (hq : pc + 1 = qn)
    (K : ∀ T', Here p l e R s m args below meth c Z a0 y bytes ml ret dm fp T' k n (os.set i (a, .inr (.long, vs.set j.toNatClampNeg (.long x)))) → Wp p e below Z a0 dm fp R s Post T' (mkF m qn Ls rest)) : Wp p e below Z a0 dm fp R s Post T (mkF m pc Ls (.long x :: .int j :: .ref a :: rest)) := by
  subst hq
  exact Here.stOf rfl A ho hj hl hdf (fun _ _ X Ar hin => RoadKit.stJ X A.hx A.hz rfl Ar hin (g := mkF m pc Ls (.long x :: .int j :: .ref a :: rest)) rfl rfl (A.hb hd)) K
theorem Here.stC {i : Nat} {a : Addr} {vs : List Value} {j x : Int32} (A : Here p l e R s m args below meth c Z a0 y bytes ml ret dm fp T k n os) (hd : decode bytes pc = .ok (.castore, 1)) (ho : os[i]? = some (a, .inr (.char, vs))) (hj : ¬ j < 0) (hl : j.toNatClampNeg < vs.length) (hdf : dm = fp) {qn : Nat} (hq : pc + 1 = qn)
    (K : ∀ T', Here p l e R s m args below meth c Z a0 y bytes ml ret dm fp T' k n (os.set i (a, .inr (.char, vs.set j.toNatClampNeg (.int (nar .char x))))) → Wp p e below Z a0 dm fp R s Post T' (mkF m qn Ls rest)) : Wp p e below Z a0 dm fp R s Post T (mkF m pc Ls (.int x :: .int j :: .ref a :: rest)) := by
  subst hq
  exact Here.stOf (fits_nar_char _) A ho hj hl hdf (fun _ _ X Ar hin => RoadKit.stC X A.hx A.hz rfl Ar hin (g := mkF m pc Ls (.int x :: .int j :: .ref a :: rest)) rfl rfl (A.hb hd)) K
theorem Here.stB {i : Nat} {a : Addr} {vs : List Value} {j x : Int32} (A : Here p l e R s m args below meth c Z a0 y bytes ml ret dm fp T k n os) (hd : decode bytes pc = .ok (.bastore, 1)) (ho : os[i]? = some (a, .inr (.byte, vs))) (hj : ¬ j < 0) (hl : j.toNatClampNeg < vs.length) (hdf : dm = fp) {qn : Nat} (hq : pc + 1 = qn)
    (K : ∀ T', Here p l e R s m args below meth c Z a0 y bytes ml ret dm fp T' k n (os.set i (a, .inr (.byte, vs.set j.toNatClampNeg (.int (nar .byte x))))) → Wp p e below Z a0 dm fp R s Post T' (mkF m qn Ls rest)) : Wp p e below Z a0 dm fp R s Post T (mkF m pc Ls (.int x :: .int j :: .ref a :: rest)) := by
  subst hq
  exact Here.stOf (fits_nar_byte _) A ho hj hl hdf (fun _ _ X Ar hin => RoadKit.stB X A.hx A.hz rfl Ar hin (g := mkF m pc Ls (.int x :: .int j :: .ref a :: rest)) rfl rfl (A.hb hd)) K
theorem Here.ldOf {i : Nat} {a : Addr} {ty : FieldType} {vs : List Value} {j : Int32} {v : Value} {g g' : JFrame} (A : Here p l e R s m args below meth c Z a0 y bytes ml ret dm fp T k n os) (ho : os[i]? = some (a, .inr (ty, vs))) (hj : ¬ j < 0) (hv : vs[j.toNatClampNeg]? = some v)
    (S : ∀ (locs : List Loc) (cl : Cell), Stand p l e R s m args below meth c T locs k n → T.heap[a]? = some cl → s.isArrayOf cl ty → cl.vm ≠ .unknown → ¬ (j < 0 ∨ cl.slots.size ≤ j.toNatClampNeg) → cl.slots[j.toNatClampNeg]? = some v → ∀ target, Steps p.tables e below (T.setTop g') target → Steps p.tables e below (T.setTop g) target)
    (K : Wp p e below Z a0 dm fp R s Post T g') : Wp p e below Z a0 dm fp R s Post T g := by
  have hz := A.hz
  obtain ⟨locs, X, N, H, q⟩ := A
  obtain ⟨cl, Ar, ec⟩ := H.arr ho
  refine Wp.go (S locs cl X Ar.1 (State.isArrayOf_alike hz.alike Ar.2.1) Ar.2.2 (inb ec hj (List.getElem?_eq_some_iff.mp hv).1) ?_) K
  rw [← ec, Array.getElem?_toList] at hv
  exact hv
theorem Here.ldI {i : Nat} {a : Addr} {vs : List Value} {j : Int32} {v : Value} (A : Here p l e R s m args below meth c Z a0 y bytes ml ret dm fp T k n os) (hd : decode bytes pc = .ok (.iaload, 1)) (ho : os[i]? = some (a, .inr (.int, vs))) (hj : ¬ j < 0) (hv : vs[j.toNatClampNeg]? = some v) {qn : Nat} (hq : pc + 1 = qn)
    (K : Wp p e below Z a0 dm fp R s Post T (mkF m qn Ls (v :: rest))) : Wp p e below Z a0 dm fp R s Post T (mkF m pc Ls (.int j :: .ref a :: rest)) := by
  subst hq
  exact A.ldOf ho hj hv (fun _ _ X h1 h2 h3 h4 h5 t kt => X.iaload A.hx h1 h2 h3 h4 h5 (g := mkF m pc Ls (.int j :: .ref a :: rest)) rfl rfl (A.hb hd) t kt) K
theorem Here.ldJ {i : Nat} {a : Addr} {vs : List Value} {j : Int32} {v : Value} (A : Here p l e R s m args below meth c Z a0 y bytes ml ret dm fp T k n os) (hd : decode bytes pc = .ok (.laload, 1)) (ho : os[i]? = some (a, .inr (.long, vs))) (hj : ¬ j < 0) (hv : vs[j.toNatClampNeg]? = some v) {qn : Nat} (hq : pc + 1 = qn)
    (K : Wp p e below Z a0 dm fp R s Post T (mkF m qn Ls (v :: rest))) : Wp p e below Z a0 dm fp R s Post T (mkF m pc Ls (.int j :: .ref a :: rest)) := by
  subst hq
  exact A.ldOf ho hj hv (fun _ _ X h1 h2 h3 h4 h5 t kt => X.laload A.hx h1 h2 h3 h4 h5 (g := mkF m pc Ls (.int j :: .ref a :: rest)) rfl rfl (A.hb hd) t kt) K
theorem Here.ldC {i : Nat} {a : Addr} {vs : List Value} {j : Int32} {v : Value} (A : Here p l e R s m args below meth c Z a0 y bytes ml ret dm fp T k n os) (hd : decode bytes pc = .ok (.caload, 1)) (ho : os[i]? = some (a, .inr (.char, vs))) (hj : ¬ j < 0) (hv : vs[j.toNatClampNeg]? = some v) {qn : Nat} (hq : pc + 1 = qn)
    (K : Wp p e below Z a0 dm fp R s Post T (mkF m qn Ls (v :: rest))) : Wp p e below Z a0 dm fp R s Post T (mkF m pc Ls (.int j :: .ref a :: rest)) := by
  subst hq
  exact A.ldOf ho hj hv (fun _ _ X h1 h2 h3 h4 h5 t kt => X.caload A.hx h1 h2 h3 h4 h5 (g := mkF m pc Ls (.int j :: .ref a :: rest)) rfl rfl (A.hb hd) t kt) K
theorem Here.ldB {i : Nat} {a : Addr} {vs : List Value} {j : Int32} {v : Value} (A : Here p l e R s m args below meth c Z a0 y bytes ml ret dm fp T k n os) (hd : decode bytes pc = .ok (.baload, 1)) (ho : os[i]? = some (a, .inr (.byte, vs))) (hj : ¬ j < 0) (hv : vs[j.toNatClampNeg]? = some v) {qn : Nat} (hq : pc + 1 = qn)
    (K : Wp p e below Z a0 dm fp R s Post T (mkF m qn Ls (v :: rest))) : Wp p e below Z a0 dm fp R s Post T (mkF m pc Ls (.int j :: .ref a :: rest)) := by
  subst hq
  exact A.ldOf ho hj hv (fun _ _ X h1 h2 h3 h4 h5 t kt => X.baloadBytes A.hx h1 h2 h3 h4 h5 (g := mkF m pc Ls (.int j :: .ref a :: rest)) rfl rfl (A.hb hd) t kt) K
theorem Here.len {i : Nat} {a : Addr} {ty : FieldType} {vs : List Value} {z : Int32} (A : Here p l e R s m args below meth c Z a0 y bytes ml ret dm fp T k n os) (hd : decode bytes pc = .ok (.arraylength, 1)) (ho : os[i]? = some (a, .inr (ty, vs))) (hz : vs.length.toInt32 = z) {qn : Nat} (hq : pc + 1 = qn)
    (K : Wp p e below Z a0 dm fp R s Post T (mkF m qn Ls (.int z :: rest))) : Wp p e below Z a0 dm fp R s Post T (mkF m pc Ls (.ref a :: rest)) := by
  subst hq
  have A' := A
  obtain ⟨locs, X, N, H, q⟩ := A
  obtain ⟨cl, Ar, ec⟩ := H.arr ho
  subst hz
  rw [← ec, Array.length_toList] at K
  exact Wp.go (fun t kt => X.arraylength A'.hx Ar.1 (State.isArrayOf_alike A'.hz.alike Ar.2.1) (g := mkF m pc Ls (.ref a :: rest)) rfl rfl (A'.hb hd) t kt) K
theorem Here.ldc {idx : Nat} {v : Int32} (A : Here p l e R s m args below meth c Z a0 y bytes ml ret dm fp T k n os) (w : (Jvm.Cond.constant y.cls idx v).before a0 Z = true) (hd : decode bytes pc = .ok (.ldc idx, 2)) {qn : Nat} (hq : pc + 2 = qn)
    (K : Wp p e below Z a0 dm fp R s Post T (mkF m qn Ls (.int v :: st))) : Wp p e below Z a0 dm fp R s Post T (mkF m pc Ls st) := by
  subst hq
  have A' := A
  obtain ⟨locs, X, N, H, hx, hZ, hb, hml, hown, q⟩ := A
  exact Wp.go (X.ldcInt hx hown (mvT hZ w) (g := mkF m pc Ls st) rfl (A'.hb hd)) K
theorem Here.ldcw {idx : Nat} {v : Int32} (A : Here p l e R s m args below meth c Z a0 y bytes ml ret dm fp T k n os) (w : (Jvm.Cond.constant y.cls idx v).before a0 Z = true) (hd : decode bytes pc = .ok (.ldc_w idx, 3)) {qn : Nat} (hq : pc + 3 = qn)
    (K : Wp p e below Z a0 dm fp R s Post T (mkF m qn Ls (.int v :: st))) : Wp p e below Z a0 dm fp R s Post T (mkF m pc Ls st) := by
  subst hq
  have A' := A
  obtain ⟨locs, X, N, H, hx, hZ, hb, hml, hown, q⟩ := A
  exact Wp.go (X.ldcwInt hx hown (mvT hZ w) (g := mkF m pc Ls st) rfl (A'.hb hd)) K
theorem Here.ldc2 {idx : Nat} {v : Int64} (A : Here p l e R s m args below meth c Z a0 y bytes ml ret dm fp T k n os) (w : (Jvm.Cond.constantLong y.cls idx v).before a0 Z = true) (hd : decode bytes pc = .ok (.ldc2_w idx, 3)) {qn : Nat} (hq : pc + 3 = qn)
    (K : Wp p e below Z a0 dm fp R s Post T (mkF m qn Ls (.long v :: st))) : Wp p e below Z a0 dm fp R s Post T (mkF m pc Ls st) := by
  subst hq
  have A' := A
  obtain ⟨locs, X, N, H, hx, hZ, hb, hml, hown, q⟩ := A
  exact Wp.go (X.ldc2Long hx hown (mvT hZ w) (g := mkF m pc Ls st) rfl (A'.hb hd)) K
/-- a primitive array's clone -/
theorem Here.clone {idx W i cap : Nat} {a : Addr} {ty : FieldType} {vs : List Value} {ad : String} (A : Here p l e R s m args below meth c Z a0 y bytes ml ret dm fp T k n os)
    (w1 : (Jvm.Cond.methodLink y.cls idx ⟨ad, "clone", "()Ljava/lang/Object;"⟩).before a0 Z = true) (w2 : (Jvm.Cond.sameMethod ad "java/lang/Object" "clone" "()Ljava/lang/Object;").before a0 Z = true) (w3 : (Jvm.Cond.native ⟨"java/lang/Object", "clone", "()Ljava/lang/Object;"⟩).before a0 Z = true)
    (w4 : (Jvm.Cond.instanceMethod ⟨"java/lang/Object", "clone", "()Ljava/lang/Object;"⟩).before a0 Z = true) (w5 : (Jvm.Cond.selects ad ⟨ad, "clone", "()Ljava/lang/Object;"⟩ ⟨"java/lang/Object", "clone", "()Ljava/lang/Object;"⟩).before a0 Z = true) (w6 : (Jvm.Cond.castable ad "java/lang/Cloneable").before a0 Z = true)
    (had : "[" ++ ty.toString = ad) (hd : decode bytes pc = .ok (.invokevirtual idx, 3)) (hsz : Ls.size = ml) (ho : os[i]? = some (a, .inr (ty, vs))) (hW : (rest.map fun v => v.category).sum ≤ W) (hf : 1 ≤ R.frames) (hl : W + 14 ≤ R.locals) (hcap : vs.length ≤ cap) (hc : k + 1 ≤ R.cells) (hs : n + cap ≤ R.slots) {qn : Nat} (hq : pc + 3 = qn)
    (K : ∀ T' b, Here p l e R s m args below meth c Z a0 y bytes ml ret dm fp T' (k + 1) (n + cap) (os ++ [(b, .inr (ty, vs))]) → Wp p e below Z a0 dm fp R s Post T' (mkF m qn Ls (.ref b :: rest))) : Wp p e below Z a0 dm fp R s Post T (mkF m pc Ls (.ref a :: rest)) := by
  subst hq
  have A' := A
  obtain ⟨locs, X, N, H, hx, hZ, hb, hml, hown, q⟩ := A
  obtain ⟨cl, Ar, ec, E, F⟩ := H.1.2 _ (List.mem_of_getElem? ho)
  dsimp only at ec E F Ar
  subst had
  have FC : FitC Z cl := fitC_of Ar fun j hj v hv => F v (by rw [← ec, Array.mem_toList_iff]; exact Array.mem_of_getElem? hv)
  obtain ⟨T1, h1, X1, e1, E1, A1, B1, st1⟩ := cloneA X hx hZ hown w1 w2 w3 w4 w5 w6 rfl Ar E FC (g := mkF m pc Ls (.ref a :: rest)) rfl (hsz.trans hml.symm) rfl (A'.hb hd) hf (W := W) (by show 2 * 0 + _ ≤ _; rw [Nat.mul_zero, Nat.zero_add]; exact hW) hl (cap := cap) (by rw [← Array.length_toList, ec]; exact hcap) hc hs
  exact Wp.go st1 (K T1 _ ⟨_, X1, N, by rw [e1]; exact H.push E1 ⟨_, A1, ec, B1, F⟩, hx, hZ, hb, hml, hown, q⟩)
theorem Here.ccast {idx i : Nat} {a : Addr} {ty : FieldType} {vs : List Value} {K0 : String} (A : Here p l e R s m args below meth c Z a0 y bytes ml ret dm fp T k n os) (w : (Jvm.Cond.classLink y.cls idx K0).before a0 Z = true) (had : "[" ++ ty.toString = K0) (hd : decode bytes pc = .ok (.checkcast idx, 3)) (ho : os[i]? = some (a, .inr (ty, vs))) {qn : Nat} (hq : pc + 3 = qn)
    (K : ∀ T', Here p l e R s m args below meth c Z a0 y bytes ml ret dm fp T' k n os → Wp p e below Z a0 dm fp R s Post T' (mkF m qn Ls (.ref a :: rest))) : Wp p e below Z a0 dm fp R s Post T (mkF m pc Ls (.ref a :: rest)) := by
  subst hq
  have A' := A
  obtain ⟨locs, X, N, H, hx, hZ, hb, hml, hown, q⟩ := A
  obtain ⟨cl, Ar, ec, E, F⟩ := H.1.2 _ (List.mem_of_getElem? ho)
  subst had
  obtain ⟨T1, X1, e1, st1⟩ := castY X hx hZ hown w rfl (Ins.self E) (g := mkF m pc Ls (.ref a :: rest)) rfl rfl (A'.hb hd)
  exact Wp.go st1 (K T1 ⟨locs, X1, N, by rw [e1]; exact H, hx, hZ, hb, hml, hown, q⟩)
/-! calls -/
theorem Here.initO {idx W : Nat} {a : Addr} (A : Here p l e R s m args below meth c Z a0 y bytes ml ret dm fp T k n os) (w1 : (Jvm.Cond.methodLink y.cls idx Lib.objectInit).before a0 Z = true) (w2 : (Jvm.Cond.instanceMethod Lib.objectInit).before a0 Z = true) (w3 : (Jvm.Cond.code Lib.objectInit Jvm.Example.Point.objCode 1 none).before a0 Z = true)
    (hd : decode bytes pc = .ok (.invokespecial idx, 3)) (hsz : Ls.size = ml) (hW : (rest.map fun v => v.category).sum ≤ W) (hf : 1 ≤ R.frames) (hl : W + 12 ≤ R.locals) {qn : Nat} (hq : pc + 3 = qn)
    (K : ∀ T', Here p l e R s m args below meth c Z a0 y bytes ml ret dm fp T' k n os → Wp p e below Z a0 dm fp R s Post T' (mkF m qn Ls rest)) : Wp p e below Z a0 dm fp R s Post T (mkF m pc Ls (.ref a :: rest)) := by
  subst hq
  have A' := A
  obtain ⟨locs, X, N, H, hx, hZ, hb, hml, hown, q⟩ := A
  obtain ⟨T1, X1, e1, st1⟩ := RoadKit.initO X hx hZ hown w1 w2 w3 rfl (g := mkF m pc Ls (.ref a :: rest)) rfl (hsz.trans hml.symm) rfl (A'.hb hd) hf (W := W) (by show 2 * 0 + _ ≤ _; rw [Nat.mul_zero, Nat.zero_add]; exact hW) hl
  exact Wp.go st1 (K T1 ⟨locs, X1, N, by rw [e1]; exact H, hx, hZ, hb, hml, hown, q⟩)
theorem dm_call {h0 h : Heap} {os1 os2 : Hs} (H : Hp Z a0 dm fp h0 h (os1 ++ os2)) (hc : fp2 = [] ∨ (fp2 = os2.map (·.1) ∧ dm = fp)) {x : Addr} (hx : Dm fp2 h.size x) : Dm fp h0.size x := by
  rcases hx with hx | hx
  · rcases hc with rfl | ⟨rfl, rfl⟩
    · exact absurd hx List.not_mem_nil
    · obtain ⟨q, hq, rfl⟩ := List.mem_map.mp hx
      exact H.2.1 q (List.mem_append.mpr (Or.inr hq))
  · exact Or.inr (Nat.le_trans H.2.2.1 hx)
theorem Here.callS {idx W : Nat} {y' : MethodName} {bytes' : ByteArray} {ml' : Nat} {ret' : Option FieldType} {R' : Room} {argsL : List Value} {os1 os2 : Hs} {Post' : Option Value → Hs → Prop}
    (A : Here p l e R s m args below meth c Z a0 y bytes ml ret dm fp T k n (os1 ++ os2)) (M : Pays l Z a0 y' bytes' ml' ret' R' argsL.toArray os2 fp2 Post') (hcc : fp2 = [] ∨ (fp2 = os2.map (·.1) ∧ dm = fp))
    (w1 : (Jvm.Cond.methodLink y.cls idx y').before a0 Z = true) (w2 : (Jvm.Cond.static y').before a0 Z = true) (w3 : (Jvm.Cond.initialized y'.cls).before a0 Z = true) (w4 : (Jvm.Cond.code y' bytes' ml' ret').before a0 Z = true) (hy : y'.cls ≠ "java/lang/invoke/MethodHandle" ∧ y'.cls ≠ "java/lang/invoke/VarHandle")
    (hd : decode bytes pc = .ok (.invokestatic idx, 3)) (hsz : Ls.size = ml) (hlen : ∀ sig, parseMethodDescriptor y'.desc = some sig → argsL.length = sig.parameters.length) (hst : st = argsL.reverse ++ rest) (hW : (rest.map fun v => v.category).sum ≤ W) (hf : R'.frames + 1 ≤ R.frames) (hl : W + (ml' + 11) + R'.locals ≤ R.locals) (hc : k + R'.cells ≤ R.cells) (hs : n + R'.slots ≤ R.slots) {qn : Nat} (hq : pc + 3 = qn)
    (K : ∀ T' v os', Here p l e R s m args below meth c Z a0 y bytes ml ret dm fp T' (k + R'.cells) (n + R'.slots) (os1 ++ os') → Post' v os' → Wp p e below Z a0 dm fp R s Post T' (mkF m qn Ls (v.toList ++ rest))) : Wp p e below Z a0 dm fp R s Post T (mkF m pc Ls st) := by
  subst hq
  have A' := A
  obtain ⟨locs, X, N, H, hx, hZ, hb, hml, hown, q⟩ := A
  have hq : Hq Z a0 T.heap os2 := ⟨by have := H.1.1; rw [List.map_append, List.nodup_append] at this; exact this.2.1, fun q hq => H.1.2 q (List.mem_append.mpr (Or.inr hq))⟩
  obtain ⟨v, _, ⟨T1, L1, k1, n1⟩, -, X1, ⟨Lc, hQ, l1, y1, z1⟩, st1⟩ := Jvm.LawKit.callS X hx (y := y') hown (mvT hZ w1) (mvT hZ w2) (mvT hZ w3) (mvT hZ w4) hy (backOf (W := W) (h := T.heap) (Q := fun v h L => (∀ q ∈ L, Dm fp2 T.heap.size q.base) ∧ ∃ os', Hp Z a0 (os2.map (·.1)) fp2 T.heap h os' ∧ Post' v os') (M [] T.heap hq) hZ w4 w3 hf hl) (g := mkF m pc Ls st) rfl (hsz.trans hml.symm) (argsL := argsL) (rest := rest) hlen hst (by show 2 * 0 + _ ≤ _; rw [Nat.mul_zero, Nat.zero_add]; exact hW) (A'.hb hd) (fun _ _ => ⟨rfl, rfl, hc, hs⟩)
  dsimp only [Pt.U, Pt.locs, Pt.cells, Pt.slots] at X1 l1 y1 z1 st1 hQ
  subst l1 y1 z1
  obtain ⟨N1, os', H1, hP⟩ := hQ
  refine Wp.go st1 (K T1 v os' ⟨_, X1, fun q hq => ?_, H.call H1 hcc, hx, hZ, hb, hml, hown, q⟩ hP)
  rcases List.mem_append.mp hq with hq | hq
  · exact N q hq
  · exact dm_call H hcc (N1 q hq)
theorem Here.callI {idx W : Nat} {y' : MethodName} {bytes' : ByteArray} {ml' : Nat} {R' : Room} {argsL : List Value} {a : Addr} {os1 os2 : Hs} {Post' : Option Value → Hs → Prop}
    (A : Here p l e R s m args below meth c Z a0 y bytes ml ret dm fp T k n (os1 ++ os2)) (M : Pays l Z a0 y' bytes' ml' none R' (.ref a :: argsL).toArray os2 fp2 Post') (hcc : fp2 = [] ∨ (fp2 = os2.map (·.1) ∧ dm = fp)) (hini : y'.name = "<init>")
    (w1 : (Jvm.Cond.methodLink y.cls idx y').before a0 Z = true) (w2 : (Jvm.Cond.instanceMethod y').before a0 Z = true) (w3 : (Jvm.Cond.initialized y'.cls).before a0 Z = true) (w4 : (Jvm.Cond.code y' bytes' ml' none).before a0 Z = true) (hy : y'.cls ≠ "java/lang/invoke/MethodHandle" ∧ y'.cls ≠ "java/lang/invoke/VarHandle")
    (hd : decode bytes pc = .ok (.invokespecial idx, 3)) (hsz : Ls.size = ml) (hlen : ∀ sig, parseMethodDescriptor y'.desc = some sig → argsL.length = sig.parameters.length) (hst : st = argsL.reverse ++ .ref a :: rest) (hW : (rest.map fun v => v.category).sum ≤ W) (hf : R'.frames + 1 ≤ R.frames) (hl : W + (ml' + 11) + R'.locals ≤ R.locals) (hc : k + R'.cells ≤ R.cells) (hs : n + R'.slots ≤ R.slots) {qn : Nat} (hq : pc + 3 = qn)
    (K : ∀ T' v os', Here p l e R s m args below meth c Z a0 y bytes ml ret dm fp T' (k + R'.cells) (n + R'.slots) (os1 ++ os') → Post' v os' → Wp p e below Z a0 dm fp R s Post T' (mkF m qn Ls (v.toList ++ rest))) : Wp p e below Z a0 dm fp R s Post T (mkF m pc Ls st) := by
  subst hq
  have A' := A
  obtain ⟨locs, X, N, H, hx, hZ, hb, hml, hown, q⟩ := A
  have hq : Hq Z a0 T.heap os2 := ⟨by have := H.1.1; rw [List.map_append, List.nodup_append] at this; exact this.2.1, fun q hq => H.1.2 q (List.mem_append.mpr (Or.inr hq))⟩
  obtain ⟨v, _, ⟨T1, L1, k1, n1⟩, -, X1, ⟨Lc, hQ, l1, y1, z1⟩, st1⟩ := X.specialBack hx (y := y') hini hown (mvT hZ w1) (mvT hZ w2) (mvT hZ w4) hy (backOf (W := W) (h := T.heap) (Q := fun v h L => (∀ q ∈ L, Dm fp2 T.heap.size q.base) ∧ ∃ os', Hp Z a0 (os2.map (·.1)) fp2 T.heap h os' ∧ Post' v os') (M [] T.heap hq) hZ w4 w3 hf hl) (g := mkF m pc Ls st) rfl (hsz.trans hml.symm) (Steps.refl _) (a := a) (argsL := argsL) (rest := rest) hlen hst (by show 2 * 0 + _ ≤ _; rw [Nat.mul_zero, Nat.zero_add]; exact hW) (A'.hb hd) (fun _ _ => ⟨rfl, rfl, hc, hs⟩)
  dsimp only [Pt.U, Pt.locs, Pt.cells, Pt.slots] at X1 l1 y1 z1 st1 hQ
  subst l1 y1 z1
  obtain ⟨N1, os', H1, hP⟩ := hQ
  refine Wp.go (fun t kt => st1.trans kt) (K T1 v os' ⟨_, X1, fun q hq => ?_, H.call H1 hcc, hx, hZ, hb, hml, hown, q⟩ hP)
  rcases List.mem_append.mp hq with hq | hq
  · exact N q hq
  · exact dm_call H hcc (N1 q hq)
theorem Here.callV {idx W i : Nat} {y' : MethodName} {bytes' : ByteArray} {ml' : Nat} {ret' : Option FieldType} {R' : Room} {argsL : List Value} {a : Addr} {C : String} {fs : List Fd} {os1 os2 : Hs} {Post' : Option Value → Hs → Prop}
    (A : Here p l e R s m args below meth c Z a0 y bytes ml ret dm fp T k n (os1 ++ os2)) (M : Pays l Z a0 y' bytes' ml' ret' R' (.ref a :: argsL).toArray os2 fp2 Post') (hcc : fp2 = [] ∨ (fp2 = os2.map (·.1) ∧ dm = fp)) (ho : (os1 ++ os2)[i]? = some (a, .inl (C, fs)))
    (w1 : (Jvm.Cond.methodLink y.cls idx y').before a0 Z = true) (wd : (Jvm.Cond.declares y').before a0 Z = true) (ws : (Jvm.Cond.selects C y' y').before a0 Z = true) (w2 : (Jvm.Cond.instanceMethod y').before a0 Z = true) (w3 : (Jvm.Cond.initialized y'.cls).before a0 Z = true) (w4 : (Jvm.Cond.code y' bytes' ml' ret').before a0 Z = true) (hy : y'.cls ≠ "java/lang/invoke/MethodHandle" ∧ y'.cls ≠ "java/lang/invoke/VarHandle")
    (hd : decode bytes pc = .ok (.invokevirtual idx, 3)) (hsz : Ls.size = ml) (hlen : ∀ sig, parseMethodDescriptor y'.desc = some sig → argsL.length = sig.parameters.length) (hst : st = argsL.reverse ++ .ref a :: rest) (hW : (rest.map fun v => v.category).sum ≤ W) (hf : R'.frames + 1 ≤ R.frames) (hl : W + (ml' + 11) + R'.locals ≤ R.locals) (hc : k + R'.cells ≤ R.cells) (hs : n + R'.slots ≤ R.slots) {qn : Nat} (hq : pc + 3 = qn)
    (K : ∀ T' v os', Here p l e R s m args below meth c Z a0 y bytes ml ret dm fp T' (k + R'.cells) (n + R'.slots) (os1 ++ os') → Post' v os' → Wp p e below Z a0 dm fp R s Post T' (mkF m qn Ls (v.toList ++ rest))) : Wp p e below Z a0 dm fp R s Post T (mkF m pc Ls st) := by
  subst hq
  have A' := A
  obtain ⟨locs, X, N, H, hx, hZ, hb, hml, hown, q⟩ := A
  have hq : Hq Z a0 T.heap os2 := ⟨by have := H.1.1; rw [List.map_append, List.nodup_append] at this; exact this.2.1, fun q hq => H.1.2 q (List.mem_append.mpr (Or.inr hq))⟩
  obtain ⟨cq, kq, qa, qb, qc⟩ := isOf (T := T) hZ rfl (H.exa ho)
  obtain ⟨v, _, ⟨T1, L1, k1, n1⟩, -, X1, ⟨Lc, hQ, l1, y1, z1⟩, st1⟩ := X.virtualBack hx (y := y') (z := y') hown (mvT hZ w1) (mvT hZ wd) (notFace_of_selects (args := #[]) (mvT hZ ws)) (mvT hZ ws) (mvT hZ w2) hy (backOf (W := W) (h := T.heap) (Q := fun v h L => (∀ q ∈ L, Dm fp2 T.heap.size q.base) ∧ ∃ os', Hp Z a0 (os2.map (·.1)) fp2 T.heap h os' ∧ Post' v os') (M [] T.heap hq) hZ w4 w3 hf hl) qa qc (g := mkF m pc Ls st) rfl (hsz.trans hml.symm) (Steps.refl _) (argsL := argsL) (rest := rest) hlen hst (by show 2 * 0 + _ ≤ _; rw [Nat.mul_zero, Nat.zero_add]; exact hW) (A'.hb hd) (fun _ _ => ⟨rfl, rfl, hc, hs⟩)
  dsimp only [Pt.U, Pt.locs, Pt.cells, Pt.slots] at X1 l1 y1 z1 st1 hQ
  subst l1 y1 z1
  obtain ⟨N1, os', H1, hP⟩ := hQ
  refine Wp.go (fun t kt => st1.trans kt) (K T1 v os' ⟨_, X1, fun q hq => ?_, H.call H1 hcc, hx, hZ, hb, hml, hown, q⟩ hP)
  rcases List.mem_append.mp hq with hq | hq
  · exact N q hq
  · exact dm_call H hcc (N1 q hq)
end Walks
end Jvm.OwnWp
namespace Jvm.Pilot.@@N@@
open Jvm Jvm.ClassFile Sem Op Lib Jvm.Free Jvm.Stand Jvm.LawKit Jvm.RoadKit Bundle Jvm.OwnWp Jvm.Pilot.@@N@@.Jvm.D
theorem tw {a0 : Array Value} {Z : State} (hw : ∀ d ∈ tables_1, d.before a0 Z = true) (k : Nat) {d : Jvm.Cond} (h : tables_1[k]? = some d) : d.before a0 Z = true := hw d (List.mem_of_getElem? h)
abbrev ob0 (v0 v1 v2 : Value) : Ob := .inl ("com/example/heirring/heirring/IndexedIntSet", [("com/example/heirring/heirring/IndexedIntSet", "members", "[I", v0), ("com/example/heirring/heirring/IndexedIntSet", "places", "[I", v1), ("com/example/heirring/heirring/IndexedIntSet", "size", "I", v2)])
theorem bm32 (x : Int) : x.bmod (2 ^ 32) = (x + 2147483648) % 4294967296 - 2147483648 := by
  rw [Int.bmod_def]; split <;> omega
theorem bm64 (x : Int) : x.bmod (2 ^ 64) = (x + 9223372036854775808) % 18446744073709551616 - 9223372036854775808 := by
  rw [Int.bmod_def]; split <;> omega
theorem l32_m1 : (-1 : Int32).toInt = -1 := by decide
theorem l32_0 : (0 : Int32).toInt = 0 := by decide
theorem l32_1 : (1 : Int32).toInt = 1 := by decide
theorem l32_2 : (2 : Int32).toInt = 2 := by decide
theorem l32_3 : (3 : Int32).toInt = 3 := by decide
theorem own_nn {z : Int32} (h : 0 ≤ z.toInt) : ¬ z < 0 := by
  simp only [Int32.lt_iff_toInt_lt, l32_0]
  omega
theorem own_nat {z : Int32} {n : Nat} (h : 0 ≤ z.toInt) (h' : z.toInt < n) : z.toNatClampNeg < n := by
  simp only [Int32.toNatClampNeg]
  omega
def own_val : Option Value → Int32
  | some (.int r) => r
  | _ => 0
theorem own_and31 (x : Int32) : 0 ≤ (x &&& 2147483647).toInt := by
  rw [Jvm.Kit.i32_mask x 2147483647 (k := 31) (by decide) (by decide)]
  omega
theorem own_r3b (x : Int32) : 0 ≤ ((x &&& 2147483647) % 3).toInt ∧ ((x &&& 2147483647) % 3).toInt < 3 := by
  have e : (3 : Int32).toInt = 3 := by decide
  rw [Jvm.Kit.i32_rem_nonneg (own_and31 x), e]
  have := own_and31 x
  omega
theorem own_r3 (x : Int32) : ((x &&& 2147483647) % 3) = 0 ∨ ((x &&& 2147483647) % 3) = 1 ∨ ((x &&& 2147483647) % 3) = 2 := by
  have h := own_r3b x
  rcases (show ((x &&& 2147483647) % 3).toInt = 0 ∨ ((x &&& 2147483647) % 3).toInt = 1 ∨ ((x &&& 2147483647) % 3).toInt = 2 by omega) with e | e | e
  · exact Or.inl (Int32.toInt_inj.mp (by rw [e]; decide))
  · exact Or.inr (Or.inl (Int32.toInt_inj.mp (by rw [e]; decide)))
  · exact Or.inr (Or.inr (Int32.toInt_inj.mp (by rw [e]; decide)))
theorem own_r2b (x : Int32) : 0 ≤ ((x &&& 2147483647) % 2).toInt ∧ ((x &&& 2147483647) % 2).toInt < 2 := by
  have e : (2 : Int32).toInt = 2 := by decide
  rw [Jvm.Kit.i32_rem_nonneg (own_and31 x), e]
  have := own_and31 x
  omega
theorem own_r2 (x : Int32) : ((x &&& 2147483647) % 2) = 0 ∨ ((x &&& 2147483647) % 2) = 1 := by
  have h := own_r2b x
  rcases (show ((x &&& 2147483647) % 2).toInt = 0 ∨ ((x &&& 2147483647) % 2).toInt = 1 by omega) with e | e
  · exact Or.inl (Int32.toInt_inj.mp (by rw [e]; decide))
  · exact Or.inr (Int32.toInt_inj.mp (by rw [e]; decide))
theorem own_r1b (x : Int32) : 0 ≤ ((x &&& 2147483647) % 1).toInt ∧ ((x &&& 2147483647) % 1).toInt < 1 := by
  have e : (1 : Int32).toInt = 1 := by decide
  rw [Jvm.Kit.i32_rem_nonneg (own_and31 x), e]
  have := own_and31 x
  omega
theorem own_r1 (x : Int32) : ((x &&& 2147483647) % 1) = 0 := by
  have h := own_r1b x
  rcases (show ((x &&& 2147483647) % 1).toInt = 0 by omega) with e
  · exact Int32.toInt_inj.mp (by rw [e]; decide)
theorem own_a1 (x : Int32) : (x &&& 1) = 0 ∨ (x &&& 1) = 1 := by
  have h := Jvm.Kit.i32_mask x 1 (k := 1) (by decide) (by decide)
  rcases (show (x &&& 1).toInt = 0 ∨ (x &&& 1).toInt = 1 by omega) with e | e
  · exact Or.inl (Int32.toInt_inj.mp e)
  · exact Or.inr (Int32.toInt_inj.mp e)
theorem d_jdk_65_method_103_0 : decode jdk_65_method_103_code 0 = .ok (.iconst 0, 1) := by decide +kernel
theorem d_jdk_65_method_103_1 : decode jdk_65_method_103_code 1 = .ok (.istore_n 2, 1) := by decide +kernel
theorem d_jdk_65_method_103_2 : decode jdk_65_method_103_code 2 = .ok (.aload_n 0, 1) := by decide +kernel
theorem d_jdk_65_method_103_3 : decode jdk_65_method_103_code 3 = .ok (.arraylength, 1) := by decide +kernel
theorem d_jdk_65_method_103_4 : decode jdk_65_method_103_code 4 = .ok (.istore_n 3, 1) := by decide +kernel
theorem d_jdk_65_method_103_5 : decode jdk_65_method_103_code 5 = .ok (.iload_n 2, 1) := by decide +kernel
theorem d_jdk_65_method_103_6 : decode jdk_65_method_103_code 6 = .ok (.iload_n 3, 1) := by decide +kernel
theorem d_jdk_65_method_103_7 : decode jdk_65_method_103_code 7 = .ok (.if_icmp .ge 13, 3) := by decide +kernel
theorem d_jdk_65_method_103_10 : decode jdk_65_method_103_code 10 = .ok (.aload_n 0, 1) := by decide +kernel
theorem d_jdk_65_method_103_11 : decode jdk_65_method_103_code 11 = .ok (.iload_n 2, 1) := by decide +kernel
theorem d_jdk_65_method_103_12 : decode jdk_65_method_103_code 12 = .ok (.iload_n 1, 1) := by decide +kernel
theorem d_jdk_65_method_103_13 : decode jdk_65_method_103_code 13 = .ok (.iastore, 1) := by decide +kernel
theorem d_jdk_65_method_103_14 : decode jdk_65_method_103_code 14 = .ok (.iinc 2 1, 3) := by decide +kernel
theorem d_jdk_65_method_103_17 : decode jdk_65_method_103_code 17 = .ok (.goto (-12), 3) := by decide +kernel
theorem d_jdk_65_method_103_20 : decode jdk_65_method_103_code 20 = .ok (.return_, 1) := by decide +kernel
theorem pn_0 : plainName "java/util/Arrays" = true := by first | (simp [plainName, overriddenIn]; done) | decide +kernel
theorem ef_m_fill (m : MethodId) (x0 : Addr) : entryFrame m #[(.ref x0), (.int (-1))] 4 = mkF m 0 #[.val (.ref x0), .val (.int (-1)), .unset, .unset] [] := by first | (simp [entryFrame, mkF, argsToLocals, Value.category]; done) | rfl
set_option maxRecDepth 65536 in
set_option maxHeartbeats 40000000 in
theorem m_fill (l : Launch) (Z : State) (a0 : Array Value) (hw : ∀ d ∈ tables_1, d.before a0 Z = true) (b : Addr) (u0 : Int32) (u1 : Int32) (u2 : Int32) :
    Pays l Z a0 (⟨"java/util/Arrays", "fill", "([II)V"⟩ : MethodName) jdk_65_method_103_code 4 none ({ frames := 0, cells := 0, slots := 0, locals := 0 } : Room) #[(.ref b), (.int (-1))] [(b, .inr (.int, [(.int u0), (.int u1), (.int u2)]))] (([(b, .inr (.int, [(.int u0), (.int u1), (.int u2)]))] : Hs).map (·.1)) (fun v os' => v = none ∧ os' = [(b, .inr (.int, [(.int (-1)), (.int (-1)), (.int (-1))]))]) := by
  refine Pays.of (Ls := #[.val (.ref b), .val (.int (-1)), .unset, .unset]) (plainFor_of_name pn_0) (fun m => ef_m_fill m b) ?_
  intro p e s m below meth c T0 A0
  refine A0.iconst (q := 1) (v := 0) d_jdk_65_method_103_0 rfl rfl ?_
  refine A0.istoreN (q := 2) (l' := #[.val (.ref b), .val (.int (-1)), .val (.int 0), .unset]) d_jdk_65_method_103_1 rfl rfl ?_
  refine A0.aloadN (q := 3) d_jdk_65_method_103_2 rfl rfl rfl ?_
  refine A0.len (qn := 4) (i := 0) (z := (3 : Int32)) d_jdk_65_method_103_3 rfl (rfl) rfl ?_
  refine A0.istoreN (q := 5) (l' := #[.val (.ref b), .val (.int (-1)), .val (.int 0), .val (.int 3)]) d_jdk_65_method_103_4 rfl rfl ?_
  refine A0.iloadN (q := 6) d_jdk_65_method_103_5 rfl rfl ?_
  refine A0.iloadN (q := 7) d_jdk_65_method_103_6 rfl rfl ?_
  refine A0.icmpNo (q := 10) d_jdk_65_method_103_7 (by decide) rfl ?_
  refine A0.aloadN (q := 11) d_jdk_65_method_103_10 rfl rfl rfl ?_
  refine A0.iloadN (q := 12) d_jdk_65_method_103_11 rfl rfl ?_
  refine A0.iloadN (q := 13) d_jdk_65_method_103_12 rfl rfl ?_
  refine A0.stI (qn := 14) (i := 0) d_jdk_65_method_103_13 rfl (by decide) (show (0 : Int32).toNatClampNeg < 3 from by decide) rfl rfl (fun T1 A2 => ?_)
  have A3 := A2.cast (k2 := 0) (n2 := 0) (os2 := [(b, .inr (.int, [(.int (-1)), (.int u1), (.int u2)]))]) rfl rfl rfl
  refine A3.iinc (q := 17) (l' := #[.val (.ref b), .val (.int (-1)), .val (.int 1), .val (.int 3)]) d_jdk_65_method_103_14 rfl rfl rfl ?_
  refine A3.goto (q := 5) d_jdk_65_method_103_17 (by decide) (by decide) ?_
  refine A3.iloadN (q := 6) d_jdk_65_method_103_5 rfl rfl ?_
  refine A3.iloadN (q := 7) d_jdk_65_method_103_6 rfl rfl ?_
  refine A3.icmpNo (q := 10) d_jdk_65_method_103_7 (by decide) rfl ?_
  refine A3.aloadN (q := 11) d_jdk_65_method_103_10 rfl rfl rfl ?_
  refine A3.iloadN (q := 12) d_jdk_65_method_103_11 rfl rfl ?_
  refine A3.iloadN (q := 13) d_jdk_65_method_103_12 rfl rfl ?_
  refine A3.stI (qn := 14) (i := 0) d_jdk_65_method_103_13 rfl (by decide) (show (1 : Int32).toNatClampNeg < 3 from by decide) rfl rfl (fun T4 A5 => ?_)
  have A6 := A5.cast (k2 := 0) (n2 := 0) (os2 := [(b, .inr (.int, [(.int (-1)), (.int (-1)), (.int u2)]))]) rfl rfl rfl
  refine A6.iinc (q := 17) (l' := #[.val (.ref b), .val (.int (-1)), .val (.int 2), .val (.int 3)]) d_jdk_65_method_103_14 rfl rfl rfl ?_
  refine A6.goto (q := 5) d_jdk_65_method_103_17 (by decide) (by decide) ?_
  refine A6.iloadN (q := 6) d_jdk_65_method_103_5 rfl rfl ?_
  refine A6.iloadN (q := 7) d_jdk_65_method_103_6 rfl rfl ?_
  refine A6.icmpNo (q := 10) d_jdk_65_method_103_7 (by decide) rfl ?_
  refine A6.aloadN (q := 11) d_jdk_65_method_103_10 rfl rfl rfl ?_
  refine A6.iloadN (q := 12) d_jdk_65_method_103_11 rfl rfl ?_
  refine A6.iloadN (q := 13) d_jdk_65_method_103_12 rfl rfl ?_
  refine A6.stI (qn := 14) (i := 0) d_jdk_65_method_103_13 rfl (by decide) (show (2 : Int32).toNatClampNeg < 3 from by decide) rfl rfl (fun T7 A8 => ?_)
  have A9 := A8.cast (k2 := 0) (n2 := 0) (os2 := [(b, .inr (.int, [(.int (-1)), (.int (-1)), (.int (-1))]))]) rfl rfl rfl
  refine A9.iinc (q := 17) (l' := #[.val (.ref b), .val (.int (-1)), .val (.int 3), .val (.int 3)]) d_jdk_65_method_103_14 rfl rfl rfl ?_
  refine A9.goto (q := 5) d_jdk_65_method_103_17 (by decide) (by decide) ?_
  refine A9.iloadN (q := 6) d_jdk_65_method_103_5 rfl rfl ?_
  refine A9.iloadN (q := 7) d_jdk_65_method_103_6 rfl rfl ?_
  refine A9.icmpYes (q := 20) d_jdk_65_method_103_7 (by decide) (by decide) (by decide) ?_
  exact A9.retV d_jdk_65_method_103_20 (by decide) (by decide) ⟨rfl, rfl⟩
theorem d_prog_33_method_1_0 : decode prog_33_method_1_code 0 = .ok (.aload_n 0, 1) := by decide +kernel
theorem d_prog_33_method_1_1 : decode prog_33_method_1_code 1 = .ok (.invokespecial 1, 3) := by decide +kernel
theorem d_prog_33_method_1_4 : decode prog_33_method_1_code 4 = .ok (.aload_n 0, 1) := by decide +kernel
theorem d_prog_33_method_1_5 : decode prog_33_method_1_code 5 = .ok (.iload_n 1, 1) := by decide +kernel
theorem d_prog_33_method_1_6 : decode prog_33_method_1_code 6 = .ok (.newarray .int, 2) := by decide +kernel
theorem d_prog_33_method_1_8 : decode prog_33_method_1_code 8 = .ok (.putfield 7, 3) := by decide +kernel
theorem d_prog_33_method_1_11 : decode prog_33_method_1_code 11 = .ok (.aload_n 0, 1) := by decide +kernel
theorem d_prog_33_method_1_12 : decode prog_33_method_1_code 12 = .ok (.iload_n 1, 1) := by decide +kernel
theorem d_prog_33_method_1_13 : decode prog_33_method_1_code 13 = .ok (.newarray .int, 2) := by decide +kernel
theorem d_prog_33_method_1_15 : decode prog_33_method_1_code 15 = .ok (.putfield 13, 3) := by decide +kernel
theorem d_prog_33_method_1_18 : decode prog_33_method_1_code 18 = .ok (.aload_n 0, 1) := by decide +kernel
theorem d_prog_33_method_1_19 : decode prog_33_method_1_code 19 = .ok (.getfield 13, 3) := by decide +kernel
theorem d_prog_33_method_1_22 : decode prog_33_method_1_code 22 = .ok (.iconst (-1), 1) := by decide +kernel
theorem d_prog_33_method_1_23 : decode prog_33_method_1_code 23 = .ok (.invokestatic 16, 3) := by decide +kernel
theorem pd_1 : parseMethodDescriptor "([II)V" = some ⟨[(.array .int), .int], none⟩ := by decide +kernel
theorem d_prog_33_method_1_26 : decode prog_33_method_1_code 26 = .ok (.return_, 1) := by decide +kernel
theorem pn_2 : plainName "com/example/heirring/heirring/IndexedIntSet" = true := by first | (simp [plainName, overriddenIn]; done) | decide +kernel
theorem ef_m_ini (m : MethodId) (x0 : Addr) : entryFrame m #[(.ref x0), (.int 3)] 2 = mkF m 0 #[.val (.ref x0), .val (.int 3)] [] := by first | (simp [entryFrame, mkF, argsToLocals, Value.category]; done) | rfl
set_option maxRecDepth 65536 in
set_option maxHeartbeats 40000000 in
theorem m_ini (l : Launch) (Z : State) (a0 : Array Value) (hw : ∀ d ∈ tables_1, d.before a0 Z = true) (a : Addr) :
    Pays l Z a0 (⟨"com/example/heirring/heirring/IndexedIntSet", "<init>", "(I)V"⟩ : MethodName) prog_33_method_1_code 2 none ({ frames := 1, cells := 2, slots := 6, locals := 15 } : Room) #[(.ref a), (.int 3)] [(a, ob0 .null .null (.int 0))] (([(a, ob0 .null .null (.int 0))] : Hs).map (·.1)) (fun v os' => ∃ (b1 : Addr), ∃ (b2 : Addr), v = none ∧ os' = [(a, ob0 (.ref b1) (.ref b2) (.int 0)), (b1, .inr (.int, [(.int 0), (.int 0), (.int 0)])), (b2, .inr (.int, [(.int (-1)), (.int (-1)), (.int (-1))]))]) := by
  refine Pays.of (Ls := #[.val (.ref a), .val (.int 3)]) (plainFor_of_name pn_2) (fun m => ef_m_ini m a) ?_
  intro p e s m below meth c T0 A0
  refine A0.aloadN (q := 1) d_prog_33_method_1_0 rfl rfl rfl ?_
  refine A0.initO (qn := 4) (W := 0) (tw hw 8 rfl) (tw hw 9 rfl) (tw hw 10 rfl) d_prog_33_method_1_1 rfl (Nat.le_of_eq rfl) (by decide) (by decide) rfl (fun T1 A2 => ?_)
  refine A2.aloadN (q := 5) d_prog_33_method_1_4 rfl rfl rfl ?_
  refine A2.iloadN (q := 6) d_prog_33_method_1_5 rfl rfl ?_
  refine A2.newP (qn := 8) (cap := 3) (tw hw 1 rfl) d_prog_33_method_1_6 (by decide) (by decide) (by decide) (by decide) (by decide) rfl (fun T3 b5 A4 => ?_)
  have A6 := A4.cast (k2 := 1) (n2 := 3) (os2 := [(a, ob0 .null .null (.int 0)), (b5, .inr (.int, [(.int 0), (.int 0), (.int 0)]))]) rfl rfl rfl
  refine A6.putF (qn := 11) (i := 0) (j := 0) (ty := (.array .int)) (tw hw 11 rfl) Via.refl (Or.inr ⟨(tw hw 12 rfl), rfl, rfl⟩) (tw hw 3 rfl) (by decide) rfl rfl d_prog_33_method_1_8 rfl rfl rfl rfl (fun T7 A8 => ?_)
  have A9 := A8.cast (k2 := 1) (n2 := 3) (os2 := [(a, ob0 (.ref b5) .null (.int 0)), (b5, .inr (.int, [(.int 0), (.int 0), (.int 0)]))]) rfl rfl rfl
  refine A9.aloadN (q := 12) d_prog_33_method_1_11 rfl rfl rfl ?_
  refine A9.iloadN (q := 13) d_prog_33_method_1_12 rfl rfl ?_
  refine A9.newP (qn := 15) (cap := 3) (tw hw 1 rfl) d_prog_33_method_1_13 (by decide) (by decide) (by decide) (by decide) (by decide) rfl (fun T10 b12 A11 => ?_)
  have A13 := A11.cast (k2 := 2) (n2 := 6) (os2 := [(a, ob0 (.ref b5) .null (.int 0)), (b5, .inr (.int, [(.int 0), (.int 0), (.int 0)])), (b12, .inr (.int, [(.int 0), (.int 0), (.int 0)]))]) rfl rfl rfl
  refine A13.putF (qn := 18) (i := 0) (j := 1) (ty := (.array .int)) (tw hw 13 rfl) Via.refl (Or.inr ⟨(tw hw 14 rfl), rfl, rfl⟩) (tw hw 3 rfl) (by decide) rfl rfl d_prog_33_method_1_15 rfl rfl rfl rfl (fun T14 A15 => ?_)
  have A16 := A15.cast (k2 := 2) (n2 := 6) (os2 := [(a, ob0 (.ref b5) (.ref b12) (.int 0)), (b5, .inr (.int, [(.int 0), (.int 0), (.int 0)])), (b12, .inr (.int, [(.int 0), (.int 0), (.int 0)]))]) rfl rfl rfl
  refine A16.aloadN (q := 19) d_prog_33_method_1_18 rfl rfl rfl ?_
  refine A16.getF (qn := 22) (i := 0) (j := 1) (tw hw 13 rfl) Via.refl d_prog_33_method_1_19 rfl rfl rfl (fun T17 A18 => ?_)
  refine A18.iconst (q := 23) (v := -1) d_prog_33_method_1_22 rfl rfl ?_
  refine Here.callS (qn := 26) (os1 := [(a, ob0 (.ref b5) (.ref b12) (.int 0)), (b5, .inr (.int, [(.int 0), (.int 0), (.int 0)]))]) (os2 := [(b12, .inr (.int, [(.int 0), (.int 0), (.int 0)]))]) (rest := []) (W := 0) (argsL := [(.ref b12), (.int (-1))]) A18 (m_fill l Z a0 hw b12 ((0 : Int32)) ((0 : Int32)) ((0 : Int32))) (Or.inr ⟨rfl, rfl⟩) (tw hw 15 rfl) (tw hw 16 rfl) (tw hw 17 rfl) (tw hw 18 rfl) (by decide) d_prog_33_method_1_23 rfl (lenOf pd_1 rfl) rfl (Nat.le_of_eq rfl) (by decide) (by decide) (by decide) (by decide) rfl (fun T19 v20 os21 A22 P23 => ?_)
  obtain ⟨rfl, rfl⟩ := P23
  have A24 := A22.cast (k2 := 2) (n2 := 6) (os2 := [(a, ob0 (.ref b5) (.ref b12) (.int 0)), (b5, .inr (.int, [(.int 0), (.int 0), (.int 0)])), (b12, .inr (.int, [(.int (-1)), (.int (-1)), (.int (-1))]))]) rfl rfl rfl
  exact A24.retV d_prog_33_method_1_26 (by decide) (by decide) ⟨b5, b12, rfl, rfl⟩
theorem d_prog_33_method_9_0 : decode prog_33_method_9_code 0 = .ok (.aload_n 0, 1) := by decide +kernel
theorem d_prog_33_method_9_1 : decode prog_33_method_9_code 1 = .ok (.getfield 7, 3) := by decide +kernel
theorem d_prog_33_method_9_4 : decode prog_33_method_9_code 4 = .ok (.aload_n 0, 1) := by decide +kernel
theorem d_prog_33_method_9_5 : decode prog_33_method_9_code 5 = .ok (.getfield 28, 3) := by decide +kernel
theorem d_prog_33_method_9_8 : decode prog_33_method_9_code 8 = .ok (.iload_n 1, 1) := by decide +kernel
theorem d_prog_33_method_9_9 : decode prog_33_method_9_code 9 = .ok (.iastore, 1) := by decide +kernel
theorem d_prog_33_method_9_10 : decode prog_33_method_9_code 10 = .ok (.aload_n 0, 1) := by decide +kernel
theorem d_prog_33_method_9_11 : decode prog_33_method_9_code 11 = .ok (.getfield 13, 3) := by decide +kernel
theorem d_prog_33_method_9_14 : decode prog_33_method_9_code 14 = .ok (.iload_n 1, 1) := by decide +kernel
theorem d_prog_33_method_9_15 : decode prog_33_method_9_code 15 = .ok (.aload_n 0, 1) := by decide +kernel
theorem d_prog_33_method_9_16 : decode prog_33_method_9_code 16 = .ok (.getfield 28, 3) := by decide +kernel
theorem d_prog_33_method_9_19 : decode prog_33_method_9_code 19 = .ok (.iastore, 1) := by decide +kernel
theorem d_prog_33_method_9_20 : decode prog_33_method_9_code 20 = .ok (.aload_n 0, 1) := by decide +kernel
theorem d_prog_33_method_9_21 : decode prog_33_method_9_code 21 = .ok (.dup, 1) := by decide +kernel
theorem d_prog_33_method_9_22 : decode prog_33_method_9_code 22 = .ok (.getfield 28, 3) := by decide +kernel
theorem d_prog_33_method_9_25 : decode prog_33_method_9_code 25 = .ok (.iconst 1, 1) := by decide +kernel
theorem d_prog_33_method_9_26 : decode prog_33_method_9_code 26 = .ok (.iadd, 1) := by decide +kernel
theorem d_prog_33_method_9_27 : decode prog_33_method_9_code 27 = .ok (.putfield 28, 3) := by decide +kernel
theorem d_prog_33_method_9_30 : decode prog_33_method_9_code 30 = .ok (.return_, 1) := by decide +kernel
theorem ef_m_add0 (m : MethodId) (x0 : Addr) (x1 : Int32) : entryFrame m #[(.ref x0), (.int x1)] 2 = mkF m 0 #[.val (.ref x0), .val (.int x1)] [] := by first | (simp [entryFrame, mkF, argsToLocals, Value.category]; done) | rfl
set_option maxRecDepth 65536 in
set_option maxHeartbeats 40000000 in
theorem m_add0 (l : Launch) (Z : State) (a0 : Array Value) (hw : ∀ d ∈ tables_1, d.before a0 Z = true) (a : Addr) (b1 : Addr) (b2 : Addr) (z : Int32) (u0 : Int32) (u1 : Int32) (u2 : Int32) (ps : List Value) (hz : 0 ≤ z.toInt) (hp : z.toNatClampNeg < ps.length) :
    Pays l Z a0 (⟨"com/example/heirring/heirring/IndexedIntSet", "add", "(I)V"⟩ : MethodName) prog_33_method_9_code 2 none ({ frames := 0, cells := 0, slots := 0, locals := 0 } : Room) #[(.ref a), (.int z)] [(a, ob0 (.ref b1) (.ref b2) (.int 0)), (b1, .inr (.int, [(.int u0), (.int u1), (.int u2)])), (b2, .inr (.int, ps))] (([(a, ob0 (.ref b1) (.ref b2) (.int 0)), (b1, .inr (.int, [(.int u0), (.int u1), (.int u2)])), (b2, .inr (.int, ps))] : Hs).map (·.1)) (fun v os' => v = none ∧ os' = [(a, ob0 (.ref b1) (.ref b2) (.int 1)), (b1, .inr (.int, [(.int z), (.int u1), (.int u2)])), (b2, .inr (.int, (ps.set z.toNatClampNeg (.int 0))))]) := by
  refine Pays.of (Ls := #[.val (.ref a), .val (.int z)]) (plainFor_of_name pn_2) (fun m => ef_m_add0 m a z) ?_
  intro p e s m below meth c T0 A0
  refine A0.aloadN (q := 1) d_prog_33_method_9_0 rfl rfl rfl ?_
  refine A0.getF (qn := 4) (i := 0) (j := 0) (tw hw 11 rfl) Via.refl d_prog_33_method_9_1 rfl rfl rfl (fun T1 A2 => ?_)
  refine A2.aloadN (q := 5) d_prog_33_method_9_4 rfl rfl rfl ?_
  refine A2.getF (qn := 8) (i := 0) (j := 2) (tw hw 24 rfl) Via.refl d_prog_33_method_9_5 rfl rfl rfl (fun T3 A4 => ?_)
  refine A4.iloadN (q := 9) d_prog_33_method_9_8 rfl rfl ?_
  refine A4.stI (qn := 10) (i := 1) d_prog_33_method_9_9 rfl (by decide) (show (0 : Int32).toNatClampNeg < 3 from by decide) rfl rfl (fun T5 A6 => ?_)
  have A7 := A6.cast (k2 := 0) (n2 := 0) (os2 := [(a, ob0 (.ref b1) (.ref b2) (.int 0)), (b1, .inr (.int, [(.int z), (.int u1), (.int u2)])), (b2, .inr (.int, ps))]) rfl rfl rfl
  refine A7.aloadN (q := 11) d_prog_33_method_9_10 rfl rfl rfl ?_
  refine A7.getF (qn := 14) (i := 0) (j := 1) (tw hw 13 rfl) Via.refl d_prog_33_method_9_11 rfl rfl rfl (fun T8 A9 => ?_)
  refine A9.iloadN (q := 15) d_prog_33_method_9_14 rfl rfl ?_
  refine A9.aloadN (q := 16) d_prog_33_method_9_15 rfl rfl rfl ?_
  refine A9.getF (qn := 19) (i := 0) (j := 2) (tw hw 24 rfl) Via.refl d_prog_33_method_9_16 rfl rfl rfl (fun T10 A11 => ?_)
  refine A11.stI (qn := 20) (i := 2) d_prog_33_method_9_19 rfl (own_nn hz) (hp) rfl rfl (fun T12 A13 => ?_)
  have A14 := A13.cast (k2 := 0) (n2 := 0) (os2 := [(a, ob0 (.ref b1) (.ref b2) (.int 0)), (b1, .inr (.int, [(.int z), (.int u1), (.int u2)])), (b2, .inr (.int, (ps.set z.toNatClampNeg (.int 0))))]) rfl rfl rfl
  refine A14.aloadN (q := 21) d_prog_33_method_9_20 rfl rfl rfl ?_
  refine A14.dup (q := 22) d_prog_33_method_9_21 rfl rfl ?_
  refine A14.getF (qn := 25) (i := 0) (j := 2) (tw hw 24 rfl) Via.refl d_prog_33_method_9_22 rfl rfl rfl (fun T15 A16 => ?_)
  refine A16.iconst (q := 26) (v := 1) d_prog_33_method_9_25 rfl rfl ?_
  refine A16.iadd (q := 27) d_prog_33_method_9_26 rfl ?_
  refine Wp.top (v' := (.int 1)) rfl ?_
  refine A16.putF (qn := 30) (i := 0) (j := 2) (ty := .int) (tw hw 24 rfl) Via.refl (Or.inl (tw hw 25 rfl)) (tw hw 3 rfl) (by decide) rfl rfl d_prog_33_method_9_27 rfl rfl rfl rfl (fun T17 A18 => ?_)
  have A19 := A18.cast (k2 := 0) (n2 := 0) (os2 := [(a, ob0 (.ref b1) (.ref b2) (.int 1)), (b1, .inr (.int, [(.int z), (.int u1), (.int u2)])), (b2, .inr (.int, (ps.set z.toNatClampNeg (.int 0))))]) rfl rfl rfl
  exact A19.retV d_prog_33_method_9_30 (by decide) (by decide) ⟨rfl, rfl⟩
theorem ef_m_add1 (m : MethodId) (x0 : Addr) (x1 : Int32) : entryFrame m #[(.ref x0), (.int x1)] 2 = mkF m 0 #[.val (.ref x0), .val (.int x1)] [] := by first | (simp [entryFrame, mkF, argsToLocals, Value.category]; done) | rfl
set_option maxRecDepth 65536 in
set_option maxHeartbeats 40000000 in
theorem m_add1 (l : Launch) (Z : State) (a0 : Array Value) (hw : ∀ d ∈ tables_1, d.before a0 Z = true) (a : Addr) (b1 : Addr) (b2 : Addr) (z : Int32) (u0 : Int32) (u1 : Int32) (u2 : Int32) (ps : List Value) (hz : 0 ≤ z.toInt) (hp : z.toNatClampNeg < ps.length) :
    Pays l Z a0 (⟨"com/example/heirring/heirring/IndexedIntSet", "add", "(I)V"⟩ : MethodName) prog_33_method_9_code 2 none ({ frames := 0, cells := 0, slots := 0, locals := 0 } : Room) #[(.ref a), (.int z)] [(a, ob0 (.ref b1) (.ref b2) (.int 1)), (b1, .inr (.int, [(.int u0), (.int u1), (.int u2)])), (b2, .inr (.int, ps))] (([(a, ob0 (.ref b1) (.ref b2) (.int 1)), (b1, .inr (.int, [(.int u0), (.int u1), (.int u2)])), (b2, .inr (.int, ps))] : Hs).map (·.1)) (fun v os' => v = none ∧ os' = [(a, ob0 (.ref b1) (.ref b2) (.int 2)), (b1, .inr (.int, [(.int u0), (.int z), (.int u2)])), (b2, .inr (.int, (ps.set z.toNatClampNeg (.int 1))))]) := by
  refine Pays.of (Ls := #[.val (.ref a), .val (.int z)]) (plainFor_of_name pn_2) (fun m => ef_m_add1 m a z) ?_
  intro p e s m below meth c T0 A0
  refine A0.aloadN (q := 1) d_prog_33_method_9_0 rfl rfl rfl ?_
  refine A0.getF (qn := 4) (i := 0) (j := 0) (tw hw 11 rfl) Via.refl d_prog_33_method_9_1 rfl rfl rfl (fun T1 A2 => ?_)
  refine A2.aloadN (q := 5) d_prog_33_method_9_4 rfl rfl rfl ?_
  refine A2.getF (qn := 8) (i := 0) (j := 2) (tw hw 24 rfl) Via.refl d_prog_33_method_9_5 rfl rfl rfl (fun T3 A4 => ?_)
  refine A4.iloadN (q := 9) d_prog_33_method_9_8 rfl rfl ?_
  refine A4.stI (qn := 10) (i := 1) d_prog_33_method_9_9 rfl (by decide) (show (1 : Int32).toNatClampNeg < 3 from by decide) rfl rfl (fun T5 A6 => ?_)
  have A7 := A6.cast (k2 := 0) (n2 := 0) (os2 := [(a, ob0 (.ref b1) (.ref b2) (.int 1)), (b1, .inr (.int, [(.int u0), (.int z), (.int u2)])), (b2, .inr (.int, ps))]) rfl rfl rfl
  refine A7.aloadN (q := 11) d_prog_33_method_9_10 rfl rfl rfl ?_
  refine A7.getF (qn := 14) (i := 0) (j := 1) (tw hw 13 rfl) Via.refl d_prog_33_method_9_11 rfl rfl rfl (fun T8 A9 => ?_)
  refine A9.iloadN (q := 15) d_prog_33_method_9_14 rfl rfl ?_
  refine A9.aloadN (q := 16) d_prog_33_method_9_15 rfl rfl rfl ?_
  refine A9.getF (qn := 19) (i := 0) (j := 2) (tw hw 24 rfl) Via.refl d_prog_33_method_9_16 rfl rfl rfl (fun T10 A11 => ?_)
  refine A11.stI (qn := 20) (i := 2) d_prog_33_method_9_19 rfl (own_nn hz) (hp) rfl rfl (fun T12 A13 => ?_)
  have A14 := A13.cast (k2 := 0) (n2 := 0) (os2 := [(a, ob0 (.ref b1) (.ref b2) (.int 1)), (b1, .inr (.int, [(.int u0), (.int z), (.int u2)])), (b2, .inr (.int, (ps.set z.toNatClampNeg (.int 1))))]) rfl rfl rfl
  refine A14.aloadN (q := 21) d_prog_33_method_9_20 rfl rfl rfl ?_
  refine A14.dup (q := 22) d_prog_33_method_9_21 rfl rfl ?_
  refine A14.getF (qn := 25) (i := 0) (j := 2) (tw hw 24 rfl) Via.refl d_prog_33_method_9_22 rfl rfl rfl (fun T15 A16 => ?_)
  refine A16.iconst (q := 26) (v := 1) d_prog_33_method_9_25 rfl rfl ?_
  refine A16.iadd (q := 27) d_prog_33_method_9_26 rfl ?_
  refine Wp.top (v' := (.int 2)) rfl ?_
  refine A16.putF (qn := 30) (i := 0) (j := 2) (ty := .int) (tw hw 24 rfl) Via.refl (Or.inl (tw hw 25 rfl)) (tw hw 3 rfl) (by decide) rfl rfl d_prog_33_method_9_27 rfl rfl rfl rfl (fun T17 A18 => ?_)
  have A19 := A18.cast (k2 := 0) (n2 := 0) (os2 := [(a, ob0 (.ref b1) (.ref b2) (.int 2)), (b1, .inr (.int, [(.int u0), (.int z), (.int u2)])), (b2, .inr (.int, (ps.set z.toNatClampNeg (.int 1))))]) rfl rfl rfl
  exact A19.retV d_prog_33_method_9_30 (by decide) (by decide) ⟨rfl, rfl⟩
theorem ef_m_add2 (m : MethodId) (x0 : Addr) (x1 : Int32) : entryFrame m #[(.ref x0), (.int x1)] 2 = mkF m 0 #[.val (.ref x0), .val (.int x1)] [] := by first | (simp [entryFrame, mkF, argsToLocals, Value.category]; done) | rfl
set_option maxRecDepth 65536 in
set_option maxHeartbeats 40000000 in
theorem m_add2 (l : Launch) (Z : State) (a0 : Array Value) (hw : ∀ d ∈ tables_1, d.before a0 Z = true) (a : Addr) (b1 : Addr) (b2 : Addr) (z : Int32) (u0 : Int32) (u1 : Int32) (u2 : Int32) (ps : List Value) (hz : 0 ≤ z.toInt) (hp : z.toNatClampNeg < ps.length) :
    Pays l Z a0 (⟨"com/example/heirring/heirring/IndexedIntSet", "add", "(I)V"⟩ : MethodName) prog_33_method_9_code 2 none ({ frames := 0, cells := 0, slots := 0, locals := 0 } : Room) #[(.ref a), (.int z)] [(a, ob0 (.ref b1) (.ref b2) (.int 2)), (b1, .inr (.int, [(.int u0), (.int u1), (.int u2)])), (b2, .inr (.int, ps))] (([(a, ob0 (.ref b1) (.ref b2) (.int 2)), (b1, .inr (.int, [(.int u0), (.int u1), (.int u2)])), (b2, .inr (.int, ps))] : Hs).map (·.1)) (fun v os' => v = none ∧ os' = [(a, ob0 (.ref b1) (.ref b2) (.int 3)), (b1, .inr (.int, [(.int u0), (.int u1), (.int z)])), (b2, .inr (.int, (ps.set z.toNatClampNeg (.int 2))))]) := by
  refine Pays.of (Ls := #[.val (.ref a), .val (.int z)]) (plainFor_of_name pn_2) (fun m => ef_m_add2 m a z) ?_
  intro p e s m below meth c T0 A0
  refine A0.aloadN (q := 1) d_prog_33_method_9_0 rfl rfl rfl ?_
  refine A0.getF (qn := 4) (i := 0) (j := 0) (tw hw 11 rfl) Via.refl d_prog_33_method_9_1 rfl rfl rfl (fun T1 A2 => ?_)
  refine A2.aloadN (q := 5) d_prog_33_method_9_4 rfl rfl rfl ?_
  refine A2.getF (qn := 8) (i := 0) (j := 2) (tw hw 24 rfl) Via.refl d_prog_33_method_9_5 rfl rfl rfl (fun T3 A4 => ?_)
  refine A4.iloadN (q := 9) d_prog_33_method_9_8 rfl rfl ?_
  refine A4.stI (qn := 10) (i := 1) d_prog_33_method_9_9 rfl (by decide) (show (2 : Int32).toNatClampNeg < 3 from by decide) rfl rfl (fun T5 A6 => ?_)
  have A7 := A6.cast (k2 := 0) (n2 := 0) (os2 := [(a, ob0 (.ref b1) (.ref b2) (.int 2)), (b1, .inr (.int, [(.int u0), (.int u1), (.int z)])), (b2, .inr (.int, ps))]) rfl rfl rfl
  refine A7.aloadN (q := 11) d_prog_33_method_9_10 rfl rfl rfl ?_
  refine A7.getF (qn := 14) (i := 0) (j := 1) (tw hw 13 rfl) Via.refl d_prog_33_method_9_11 rfl rfl rfl (fun T8 A9 => ?_)
  refine A9.iloadN (q := 15) d_prog_33_method_9_14 rfl rfl ?_
  refine A9.aloadN (q := 16) d_prog_33_method_9_15 rfl rfl rfl ?_
  refine A9.getF (qn := 19) (i := 0) (j := 2) (tw hw 24 rfl) Via.refl d_prog_33_method_9_16 rfl rfl rfl (fun T10 A11 => ?_)
  refine A11.stI (qn := 20) (i := 2) d_prog_33_method_9_19 rfl (own_nn hz) (hp) rfl rfl (fun T12 A13 => ?_)
  have A14 := A13.cast (k2 := 0) (n2 := 0) (os2 := [(a, ob0 (.ref b1) (.ref b2) (.int 2)), (b1, .inr (.int, [(.int u0), (.int u1), (.int z)])), (b2, .inr (.int, (ps.set z.toNatClampNeg (.int 2))))]) rfl rfl rfl
  refine A14.aloadN (q := 21) d_prog_33_method_9_20 rfl rfl rfl ?_
  refine A14.dup (q := 22) d_prog_33_method_9_21 rfl rfl ?_
  refine A14.getF (qn := 25) (i := 0) (j := 2) (tw hw 24 rfl) Via.refl d_prog_33_method_9_22 rfl rfl rfl (fun T15 A16 => ?_)
  refine A16.iconst (q := 26) (v := 1) d_prog_33_method_9_25 rfl rfl ?_
  refine A16.iadd (q := 27) d_prog_33_method_9_26 rfl ?_
  refine Wp.top (v' := (.int 3)) rfl ?_
  refine A16.putF (qn := 30) (i := 0) (j := 2) (ty := .int) (tw hw 24 rfl) Via.refl (Or.inl (tw hw 25 rfl)) (tw hw 3 rfl) (by decide) rfl rfl d_prog_33_method_9_27 rfl rfl rfl rfl (fun T17 A18 => ?_)
  have A19 := A18.cast (k2 := 0) (n2 := 0) (os2 := [(a, ob0 (.ref b1) (.ref b2) (.int 3)), (b1, .inr (.int, [(.int u0), (.int u1), (.int z)])), (b2, .inr (.int, (ps.set z.toNatClampNeg (.int 2))))]) rfl rfl rfl
  exact A19.retV d_prog_33_method_9_30 (by decide) (by decide) ⟨rfl, rfl⟩
theorem d_prog_33_method_10_0 : decode prog_33_method_10_code 0 = .ok (.aload_n 0, 1) := by decide +kernel
theorem d_prog_33_method_10_1 : decode prog_33_method_10_code 1 = .ok (.getfield 13, 3) := by decide +kernel
theorem d_prog_33_method_10_4 : decode prog_33_method_10_code 4 = .ok (.iload_n 1, 1) := by decide +kernel
theorem d_prog_33_method_10_5 : decode prog_33_method_10_code 5 = .ok (.iaload, 1) := by decide +kernel
theorem d_prog_33_method_10_6 : decode prog_33_method_10_code 6 = .ok (.istore_n 2, 1) := by decide +kernel
theorem d_prog_33_method_10_7 : decode prog_33_method_10_code 7 = .ok (.aload_n 0, 1) := by decide +kernel
theorem d_prog_33_method_10_8 : decode prog_33_method_10_code 8 = .ok (.dup, 1) := by decide +kernel
theorem d_prog_33_method_10_9 : decode prog_33_method_10_code 9 = .ok (.getfield 28, 3) := by decide +kernel
theorem d_prog_33_method_10_12 : decode prog_33_method_10_code 12 = .ok (.iconst 1, 1) := by decide +kernel
theorem d_prog_33_method_10_13 : decode prog_33_method_10_code 13 = .ok (.isub, 1) := by decide +kernel
theorem d_prog_33_method_10_14 : decode prog_33_method_10_code 14 = .ok (.putfield 28, 3) := by decide +kernel
theorem d_prog_33_method_10_17 : decode prog_33_method_10_code 17 = .ok (.aload_n 0, 1) := by decide +kernel
theorem d_prog_33_method_10_18 : decode prog_33_method_10_code 18 = .ok (.getfield 7, 3) := by decide +kernel
theorem d_prog_33_method_10_21 : decode prog_33_method_10_code 21 = .ok (.aload_n 0, 1) := by decide +kernel
theorem d_prog_33_method_10_22 : decode prog_33_method_10_code 22 = .ok (.getfield 28, 3) := by decide +kernel
theorem d_prog_33_method_10_25 : decode prog_33_method_10_code 25 = .ok (.iaload, 1) := by decide +kernel
theorem d_prog_33_method_10_26 : decode prog_33_method_10_code 26 = .ok (.istore_n 3, 1) := by decide +kernel
theorem d_prog_33_method_10_27 : decode prog_33_method_10_code 27 = .ok (.aload_n 0, 1) := by decide +kernel
theorem d_prog_33_method_10_28 : decode prog_33_method_10_code 28 = .ok (.getfield 7, 3) := by decide +kernel
theorem d_prog_33_method_10_31 : decode prog_33_method_10_code 31 = .ok (.iload_n 2, 1) := by decide +kernel
theorem d_prog_33_method_10_32 : decode prog_33_method_10_code 32 = .ok (.iload_n 3, 1) := by decide +kernel
theorem d_prog_33_method_10_33 : decode prog_33_method_10_code 33 = .ok (.iastore, 1) := by decide +kernel
theorem d_prog_33_method_10_34 : decode prog_33_method_10_code 34 = .ok (.aload_n 0, 1) := by decide +kernel
theorem d_prog_33_method_10_35 : decode prog_33_method_10_code 35 = .ok (.getfield 13, 3) := by decide +kernel
theorem d_prog_33_method_10_38 : decode prog_33_method_10_code 38 = .ok (.iload_n 3, 1) := by decide +kernel
theorem d_prog_33_method_10_39 : decode prog_33_method_10_code 39 = .ok (.iload_n 2, 1) := by decide +kernel
theorem d_prog_33_method_10_40 : decode prog_33_method_10_code 40 = .ok (.iastore, 1) := by decide +kernel
theorem d_prog_33_method_10_41 : decode prog_33_method_10_code 41 = .ok (.aload_n 0, 1) := by decide +kernel
theorem d_prog_33_method_10_42 : decode prog_33_method_10_code 42 = .ok (.getfield 13, 3) := by decide +kernel
theorem d_prog_33_method_10_45 : decode prog_33_method_10_code 45 = .ok (.iload_n 1, 1) := by decide +kernel
theorem d_prog_33_method_10_46 : decode prog_33_method_10_code 46 = .ok (.iconst (-1), 1) := by decide +kernel
theorem d_prog_33_method_10_47 : decode prog_33_method_10_code 47 = .ok (.iastore, 1) := by decide +kernel
theorem d_prog_33_method_10_48 : decode prog_33_method_10_code 48 = .ok (.return_, 1) := by decide +kernel
theorem ef_m_rem10 (m : MethodId) (x0 : Addr) (x1 : Int32) : entryFrame m #[(.ref x0), (.int x1)] 4 = mkF m 0 #[.val (.ref x0), .val (.int x1), .unset, .unset] [] := by first | (simp [entryFrame, mkF, argsToLocals, Value.category]; done) | rfl
set_option maxRecDepth 65536 in
set_option maxHeartbeats 40000000 in
theorem m_rem10 (l : Launch) (Z : State) (a0 : Array Value) (hw : ∀ d ∈ tables_1, d.before a0 Z = true) (a : Addr) (b1 : Addr) (b2 : Addr) (z : Int32) (u0 : Int32) (u1 : Int32) (u2 : Int32) (ps : List Value) (hz : 0 ≤ z.toInt) (hp : z.toNatClampNeg < ps.length) (hu : 0 ≤ u0.toInt) (hv : u0.toNatClampNeg < ps.length) (hg : ps[z.toNatClampNeg]? = some (.int 0)) :
    Pays l Z a0 (⟨"com/example/heirring/heirring/IndexedIntSet", "remove", "(I)V"⟩ : MethodName) prog_33_method_10_code 4 none ({ frames := 0, cells := 0, slots := 0, locals := 0 } : Room) #[(.ref a), (.int z)] [(a, ob0 (.ref b1) (.ref b2) (.int 1)), (b1, .inr (.int, [(.int u0), (.int u1), (.int u2)])), (b2, .inr (.int, ps))] (([(a, ob0 (.ref b1) (.ref b2) (.int 1)), (b1, .inr (.int, [(.int u0), (.int u1), (.int u2)])), (b2, .inr (.int, ps))] : Hs).map (·.1)) (fun v os' => v = none ∧ os' = [(a, ob0 (.ref b1) (.ref b2) (.int 0)), (b1, .inr (.int, [(.int u0), (.int u1), (.int u2)])), (b2, .inr (.int, ((ps.set u0.toNatClampNeg (.int 0)).set z.toNatClampNeg (.int (-1)))))]) := by
  refine Pays.of (Ls := #[.val (.ref a), .val (.int z), .unset, .unset]) (plainFor_of_name pn_2) (fun m => ef_m_rem10 m a z) ?_
  intro p e s m below meth c T0 A0
  refine A0.aloadN (q := 1) d_prog_33_method_10_0 rfl rfl rfl ?_
  refine A0.getF (qn := 4) (i := 0) (j := 1) (tw hw 13 rfl) Via.refl d_prog_33_method_10_1 rfl rfl rfl (fun T1 A2 => ?_)
  refine A2.iloadN (q := 5) d_prog_33_method_10_4 rfl rfl ?_
  refine A2.ldI (qn := 6) (i := 2) (v := (.int 0)) d_prog_33_method_10_5 rfl (own_nn hz) (hg) rfl ?_
  refine A2.istoreN (q := 7) (l' := #[.val (.ref a), .val (.int z), .val (.int 0), .unset]) d_prog_33_method_10_6 rfl rfl ?_
  refine A2.aloadN (q := 8) d_prog_33_method_10_7 rfl rfl rfl ?_
  refine A2.dup (q := 9) d_prog_33_method_10_8 rfl rfl ?_
  refine A2.getF (qn := 12) (i := 0) (j := 2) (tw hw 24 rfl) Via.refl d_prog_33_method_10_9 rfl rfl rfl (fun T3 A4 => ?_)
  refine A4.iconst (q := 13) (v := 1) d_prog_33_method_10_12 rfl rfl ?_
  refine A4.isub (q := 14) d_prog_33_method_10_13 rfl ?_
  refine Wp.top (v' := (.int 0)) rfl ?_
  refine A4.putF (qn := 17) (i := 0) (j := 2) (ty := .int) (tw hw 24 rfl) Via.refl (Or.inl (tw hw 25 rfl)) (tw hw 3 rfl) (by decide) rfl rfl d_prog_33_method_10_14 rfl rfl rfl rfl (fun T5 A6 => ?_)
  have A7 := A6.cast (k2 := 0) (n2 := 0) (os2 := [(a, ob0 (.ref b1) (.ref b2) (.int 0)), (b1, .inr (.int, [(.int u0), (.int u1), (.int u2)])), (b2, .inr (.int, ps))]) rfl rfl rfl
  refine A7.aloadN (q := 18) d_prog_33_method_10_17 rfl rfl rfl ?_
  refine A7.getF (qn := 21) (i := 0) (j := 0) (tw hw 11 rfl) Via.refl d_prog_33_method_10_18 rfl rfl rfl (fun T8 A9 => ?_)
  refine A9.aloadN (q := 22) d_prog_33_method_10_21 rfl rfl rfl ?_
  refine A9.getF (qn := 25) (i := 0) (j := 2) (tw hw 24 rfl) Via.refl d_prog_33_method_10_22 rfl rfl rfl (fun T10 A11 => ?_)
  refine A11.ldI (qn := 26) (i := 1) d_prog_33_method_10_25 rfl (by decide) rfl rfl ?_
  refine A11.istoreN (q := 27) (l' := #[.val (.ref a), .val (.int z), .val (.int 0), .val (.int u0)]) d_prog_33_method_10_26 rfl rfl ?_
  refine A11.aloadN (q := 28) d_prog_33_method_10_27 rfl rfl rfl ?_
  refine A11.getF (qn := 31) (i := 0) (j := 0) (tw hw 11 rfl) Via.refl d_prog_33_method_10_28 rfl rfl rfl (fun T12 A13 => ?_)
  refine A13.iloadN (q := 32) d_prog_33_method_10_31 rfl rfl ?_
  refine A13.iloadN (q := 33) d_prog_33_method_10_32 rfl rfl ?_
  refine A13.stI (qn := 34) (i := 1) d_prog_33_method_10_33 rfl (by decide) (show (0 : Int32).toNatClampNeg < 3 from by decide) rfl rfl (fun T14 A15 => ?_)
  have A16 := A15.cast (k2 := 0) (n2 := 0) (os2 := [(a, ob0 (.ref b1) (.ref b2) (.int 0)), (b1, .inr (.int, [(.int u0), (.int u1), (.int u2)])), (b2, .inr (.int, ps))]) rfl rfl rfl
  refine A16.aloadN (q := 35) d_prog_33_method_10_34 rfl rfl rfl ?_
  refine A16.getF (qn := 38) (i := 0) (j := 1) (tw hw 13 rfl) Via.refl d_prog_33_method_10_35 rfl rfl rfl (fun T17 A18 => ?_)
  refine A18.iloadN (q := 39) d_prog_33_method_10_38 rfl rfl ?_
  refine A18.iloadN (q := 40) d_prog_33_method_10_39 rfl rfl ?_
  refine A18.stI (qn := 41) (i := 2) d_prog_33_method_10_40 rfl (own_nn hu) (hv) rfl rfl (fun T19 A20 => ?_)
  have A21 := A20.cast (k2 := 0) (n2 := 0) (os2 := [(a, ob0 (.ref b1) (.ref b2) (.int 0)), (b1, .inr (.int, [(.int u0), (.int u1), (.int u2)])), (b2, .inr (.int, (ps.set u0.toNatClampNeg (.int 0))))]) rfl rfl rfl
  refine A21.aloadN (q := 42) d_prog_33_method_10_41 rfl rfl rfl ?_
  refine A21.getF (qn := 45) (i := 0) (j := 1) (tw hw 13 rfl) Via.refl d_prog_33_method_10_42 rfl rfl rfl (fun T22 A23 => ?_)
  refine A23.iloadN (q := 46) d_prog_33_method_10_45 rfl rfl ?_
  refine A23.iconst (q := 47) (v := -1) d_prog_33_method_10_46 rfl rfl ?_
  refine A23.stI (qn := 48) (i := 2) d_prog_33_method_10_47 rfl (own_nn hz) (by rw [List.length_set]; exact hp) rfl rfl (fun T24 A25 => ?_)
  have A26 := A25.cast (k2 := 0) (n2 := 0) (os2 := [(a, ob0 (.ref b1) (.ref b2) (.int 0)), (b1, .inr (.int, [(.int u0), (.int u1), (.int u2)])), (b2, .inr (.int, ((ps.set u0.toNatClampNeg (.int 0)).set z.toNatClampNeg (.int (-1)))))]) rfl rfl rfl
  exact A26.retV d_prog_33_method_10_48 (by decide) (by decide) ⟨rfl, rfl⟩
theorem ef_m_rem20 (m : MethodId) (x0 : Addr) (x1 : Int32) : entryFrame m #[(.ref x0), (.int x1)] 4 = mkF m 0 #[.val (.ref x0), .val (.int x1), .unset, .unset] [] := by first | (simp [entryFrame, mkF, argsToLocals, Value.category]; done) | rfl
set_option maxRecDepth 65536 in
set_option maxHeartbeats 40000000 in
theorem m_rem20 (l : Launch) (Z : State) (a0 : Array Value) (hw : ∀ d ∈ tables_1, d.before a0 Z = true) (a : Addr) (b1 : Addr) (b2 : Addr) (z : Int32) (u0 : Int32) (u1 : Int32) (u2 : Int32) (ps : List Value) (hz : 0 ≤ z.toInt) (hp : z.toNatClampNeg < ps.length) (hu : 0 ≤ u1.toInt) (hv : u1.toNatClampNeg < ps.length) (hg : ps[z.toNatClampNeg]? = some (.int 0)) :
    Pays l Z a0 (⟨"com/example/heirring/heirring/IndexedIntSet", "remove", "(I)V"⟩ : MethodName) prog_33_method_10_code 4 none ({ frames := 0, cells := 0, slots := 0, locals := 0 } : Room) #[(.ref a), (.int z)] [(a, ob0 (.ref b1) (.ref b2) (.int 2)), (b1, .inr (.int, [(.int u0), (.int u1), (.int u2)])), (b2, .inr (.int, ps))] (([(a, ob0 (.ref b1) (.ref b2) (.int 2)), (b1, .inr (.int, [(.int u0), (.int u1), (.int u2)])), (b2, .inr (.int, ps))] : Hs).map (·.1)) (fun v os' => v = none ∧ os' = [(a, ob0 (.ref b1) (.ref b2) (.int 1)), (b1, .inr (.int, [(.int u1), (.int u1), (.int u2)])), (b2, .inr (.int, ((ps.set u1.toNatClampNeg (.int 0)).set z.toNatClampNeg (.int (-1)))))]) := by
  refine Pays.of (Ls := #[.val (.ref a), .val (.int z), .unset, .unset]) (plainFor_of_name pn_2) (fun m => ef_m_rem20 m a z) ?_
  intro p e s m below meth c T0 A0
  refine A0.aloadN (q := 1) d_prog_33_method_10_0 rfl rfl rfl ?_
  refine A0.getF (qn := 4) (i := 0) (j := 1) (tw hw 13 rfl) Via.refl d_prog_33_method_10_1 rfl rfl rfl (fun T1 A2 => ?_)
  refine A2.iloadN (q := 5) d_prog_33_method_10_4 rfl rfl ?_
  refine A2.ldI (qn := 6) (i := 2) (v := (.int 0)) d_prog_33_method_10_5 rfl (own_nn hz) (hg) rfl ?_
  refine A2.istoreN (q := 7) (l' := #[.val (.ref a), .val (.int z), .val (.int 0), .unset]) d_prog_33_method_10_6 rfl rfl ?_
  refine A2.aloadN (q := 8) d_prog_33_method_10_7 rfl rfl rfl ?_
  refine A2.dup (q := 9) d_prog_33_method_10_8 rfl rfl ?_
  refine A2.getF (qn := 12) (i := 0) (j := 2) (tw hw 24 rfl) Via.refl d_prog_33_method_10_9 rfl rfl rfl (fun T3 A4 => ?_)
  refine A4.iconst (q := 13) (v := 1) d_prog_33_method_10_12 rfl rfl ?_
  refine A4.isub (q := 14) d_prog_33_method_10_13 rfl ?_
  refine Wp.top (v' := (.int 1)) rfl ?_
  refine A4.putF (qn := 17) (i := 0) (j := 2) (ty := .int) (tw hw 24 rfl) Via.refl (Or.inl (tw hw 25 rfl)) (tw hw 3 rfl) (by decide) rfl rfl d_prog_33_method_10_14 rfl rfl rfl rfl (fun T5 A6 => ?_)
  have A7 := A6.cast (k2 := 0) (n2 := 0) (os2 := [(a, ob0 (.ref b1) (.ref b2) (.int 1)), (b1, .inr (.int, [(.int u0), (.int u1), (.int u2)])), (b2, .inr (.int, ps))]) rfl rfl rfl
  refine A7.aloadN (q := 18) d_prog_33_method_10_17 rfl rfl rfl ?_
  refine A7.getF (qn := 21) (i := 0) (j := 0) (tw hw 11 rfl) Via.refl d_prog_33_method_10_18 rfl rfl rfl (fun T8 A9 => ?_)
  refine A9.aloadN (q := 22) d_prog_33_method_10_21 rfl rfl rfl ?_
  refine A9.getF (qn := 25) (i := 0) (j := 2) (tw hw 24 rfl) Via.refl d_prog_33_method_10_22 rfl rfl rfl (fun T10 A11 => ?_)
  refine A11.ldI (qn := 26) (i := 1) d_prog_33_method_10_25 rfl (by decide) rfl rfl ?_
  refine A11.istoreN (q := 27) (l' := #[.val (.ref a), .val (.int z), .val (.int 0), .val (.int u1)]) d_prog_33_method_10_26 rfl rfl ?_
  refine A11.aloadN (q := 28) d_prog_33_method_10_27 rfl rfl rfl ?_
  refine A11.getF (qn := 31) (i := 0) (j := 0) (tw hw 11 rfl) Via.refl d_prog_33_method_10_28 rfl rfl rfl (fun T12 A13 => ?_)
  refine A13.iloadN (q := 32) d_prog_33_method_10_31 rfl rfl ?_
  refine A13.iloadN (q := 33) d_prog_33_method_10_32 rfl rfl ?_
  refine A13.stI (qn := 34) (i := 1) d_prog_33_method_10_33 rfl (by decide) (show (0 : Int32).toNatClampNeg < 3 from by decide) rfl rfl (fun T14 A15 => ?_)
  have A16 := A15.cast (k2 := 0) (n2 := 0) (os2 := [(a, ob0 (.ref b1) (.ref b2) (.int 1)), (b1, .inr (.int, [(.int u1), (.int u1), (.int u2)])), (b2, .inr (.int, ps))]) rfl rfl rfl
  refine A16.aloadN (q := 35) d_prog_33_method_10_34 rfl rfl rfl ?_
  refine A16.getF (qn := 38) (i := 0) (j := 1) (tw hw 13 rfl) Via.refl d_prog_33_method_10_35 rfl rfl rfl (fun T17 A18 => ?_)
  refine A18.iloadN (q := 39) d_prog_33_method_10_38 rfl rfl ?_
  refine A18.iloadN (q := 40) d_prog_33_method_10_39 rfl rfl ?_
  refine A18.stI (qn := 41) (i := 2) d_prog_33_method_10_40 rfl (own_nn hu) (hv) rfl rfl (fun T19 A20 => ?_)
  have A21 := A20.cast (k2 := 0) (n2 := 0) (os2 := [(a, ob0 (.ref b1) (.ref b2) (.int 1)), (b1, .inr (.int, [(.int u1), (.int u1), (.int u2)])), (b2, .inr (.int, (ps.set u1.toNatClampNeg (.int 0))))]) rfl rfl rfl
  refine A21.aloadN (q := 42) d_prog_33_method_10_41 rfl rfl rfl ?_
  refine A21.getF (qn := 45) (i := 0) (j := 1) (tw hw 13 rfl) Via.refl d_prog_33_method_10_42 rfl rfl rfl (fun T22 A23 => ?_)
  refine A23.iloadN (q := 46) d_prog_33_method_10_45 rfl rfl ?_
  refine A23.iconst (q := 47) (v := -1) d_prog_33_method_10_46 rfl rfl ?_
  refine A23.stI (qn := 48) (i := 2) d_prog_33_method_10_47 rfl (own_nn hz) (by rw [List.length_set]; exact hp) rfl rfl (fun T24 A25 => ?_)
  have A26 := A25.cast (k2 := 0) (n2 := 0) (os2 := [(a, ob0 (.ref b1) (.ref b2) (.int 1)), (b1, .inr (.int, [(.int u1), (.int u1), (.int u2)])), (b2, .inr (.int, ((ps.set u1.toNatClampNeg (.int 0)).set z.toNatClampNeg (.int (-1)))))]) rfl rfl rfl
  exact A26.retV d_prog_33_method_10_48 (by decide) (by decide) ⟨rfl, rfl⟩
theorem ef_m_rem21 (m : MethodId) (x0 : Addr) (x1 : Int32) : entryFrame m #[(.ref x0), (.int x1)] 4 = mkF m 0 #[.val (.ref x0), .val (.int x1), .unset, .unset] [] := by first | (simp [entryFrame, mkF, argsToLocals, Value.category]; done) | rfl
set_option maxRecDepth 65536 in
set_option maxHeartbeats 40000000 in
theorem m_rem21 (l : Launch) (Z : State) (a0 : Array Value) (hw : ∀ d ∈ tables_1, d.before a0 Z = true) (a : Addr) (b1 : Addr) (b2 : Addr) (z : Int32) (u0 : Int32) (u1 : Int32) (u2 : Int32) (ps : List Value) (hz : 0 ≤ z.toInt) (hp : z.toNatClampNeg < ps.length) (hu : 0 ≤ u1.toInt) (hv : u1.toNatClampNeg < ps.length) (hg : ps[z.toNatClampNeg]? = some (.int 1)) :
    Pays l Z a0 (⟨"com/example/heirring/heirring/IndexedIntSet", "remove", "(I)V"⟩ : MethodName) prog_33_method_10_code 4 none ({ frames := 0, cells := 0, slots := 0, locals := 0 } : Room) #[(.ref a), (.int z)] [(a, ob0 (.ref b1) (.ref b2) (.int 2)), (b1, .inr (.int, [(.int u0), (.int u1), (.int u2)])), (b2, .inr (.int, ps))] (([(a, ob0 (.ref b1) (.ref b2) (.int 2)), (b1, .inr (.int, [(.int u0), (.int u1), (.int u2)])), (b2, .inr (.int, ps))] : Hs).map (·.1)) (fun v os' => v = none ∧ os' = [(a, ob0 (.ref b1) (.ref b2) (.int 1)), (b1, .inr (.int, [(.int u0), (.int u1), (.int u2)])), (b2, .inr (.int, ((ps.set u1.toNatClampNeg (.int 1)).set z.toNatClampNeg (.int (-1)))))]) := by
  refine Pays.of (Ls := #[.val (.ref a), .val (.int z), .unset, .unset]) (plainFor_of_name pn_2) (fun m => ef_m_rem21 m a z) ?_
  intro p e s m below meth c T0 A0
  refine A0.aloadN (q := 1) d_prog_33_method_10_0 rfl rfl rfl ?_
  refine A0.getF (qn := 4) (i := 0) (j := 1) (tw hw 13 rfl) Via.refl d_prog_33_method_10_1 rfl rfl rfl (fun T1 A2 => ?_)
  refine A2.iloadN (q := 5) d_prog_33_method_10_4 rfl rfl ?_
  refine A2.ldI (qn := 6) (i := 2) (v := (.int 1)) d_prog_33_method_10_5 rfl (own_nn hz) (hg) rfl ?_
  refine A2.istoreN (q := 7) (l' := #[.val (.ref a), .val (.int z), .val (.int 1), .unset]) d_prog_33_method_10_6 rfl rfl ?_
  refine A2.aloadN (q := 8) d_prog_33_method_10_7 rfl rfl rfl ?_
  refine A2.dup (q := 9) d_prog_33_method_10_8 rfl rfl ?_
  refine A2.getF (qn := 12) (i := 0) (j := 2) (tw hw 24 rfl) Via.refl d_prog_33_method_10_9 rfl rfl rfl (fun T3 A4 => ?_)
  refine A4.iconst (q := 13) (v := 1) d_prog_33_method_10_12 rfl rfl ?_
  refine A4.isub (q := 14) d_prog_33_method_10_13 rfl ?_
  refine Wp.top (v' := (.int 1)) rfl ?_
  refine A4.putF (qn := 17) (i := 0) (j := 2) (ty := .int) (tw hw 24 rfl) Via.refl (Or.inl (tw hw 25 rfl)) (tw hw 3 rfl) (by decide) rfl rfl d_prog_33_method_10_14 rfl rfl rfl rfl (fun T5 A6 => ?_)
  have A7 := A6.cast (k2 := 0) (n2 := 0) (os2 := [(a, ob0 (.ref b1) (.ref b2) (.int 1)), (b1, .inr (.int, [(.int u0), (.int u1), (.int u2)])), (b2, .inr (.int, ps))]) rfl rfl rfl
  refine A7.aloadN (q := 18) d_prog_33_method_10_17 rfl rfl rfl ?_
  refine A7.getF (qn := 21) (i := 0) (j := 0) (tw hw 11 rfl) Via.refl d_prog_33_method_10_18 rfl rfl rfl (fun T8 A9 => ?_)
  refine A9.aloadN (q := 22) d_prog_33_method_10_21 rfl rfl rfl ?_
  refine A9.getF (qn := 25) (i := 0) (j := 2) (tw hw 24 rfl) Via.refl d_prog_33_method_10_22 rfl rfl rfl (fun T10 A11 => ?_)
  refine A11.ldI (qn := 26) (i := 1) d_prog_33_method_10_25 rfl (by decide) rfl rfl ?_
  refine A11.istoreN (q := 27) (l' := #[.val (.ref a), .val (.int z), .val (.int 1), .val (.int u1)]) d_prog_33_method_10_26 rfl rfl ?_
  refine A11.aloadN (q := 28) d_prog_33_method_10_27 rfl rfl rfl ?_
  refine A11.getF (qn := 31) (i := 0) (j := 0) (tw hw 11 rfl) Via.refl d_prog_33_method_10_28 rfl rfl rfl (fun T12 A13 => ?_)
  refine A13.iloadN (q := 32) d_prog_33_method_10_31 rfl rfl ?_
  refine A13.iloadN (q := 33) d_prog_33_method_10_32 rfl rfl ?_
  refine A13.stI (qn := 34) (i := 1) d_prog_33_method_10_33 rfl (by decide) (show (1 : Int32).toNatClampNeg < 3 from by decide) rfl rfl (fun T14 A15 => ?_)
  have A16 := A15.cast (k2 := 0) (n2 := 0) (os2 := [(a, ob0 (.ref b1) (.ref b2) (.int 1)), (b1, .inr (.int, [(.int u0), (.int u1), (.int u2)])), (b2, .inr (.int, ps))]) rfl rfl rfl
  refine A16.aloadN (q := 35) d_prog_33_method_10_34 rfl rfl rfl ?_
  refine A16.getF (qn := 38) (i := 0) (j := 1) (tw hw 13 rfl) Via.refl d_prog_33_method_10_35 rfl rfl rfl (fun T17 A18 => ?_)
  refine A18.iloadN (q := 39) d_prog_33_method_10_38 rfl rfl ?_
  refine A18.iloadN (q := 40) d_prog_33_method_10_39 rfl rfl ?_
  refine A18.stI (qn := 41) (i := 2) d_prog_33_method_10_40 rfl (own_nn hu) (hv) rfl rfl (fun T19 A20 => ?_)
  have A21 := A20.cast (k2 := 0) (n2 := 0) (os2 := [(a, ob0 (.ref b1) (.ref b2) (.int 1)), (b1, .inr (.int, [(.int u0), (.int u1), (.int u2)])), (b2, .inr (.int, (ps.set u1.toNatClampNeg (.int 1))))]) rfl rfl rfl
  refine A21.aloadN (q := 42) d_prog_33_method_10_41 rfl rfl rfl ?_
  refine A21.getF (qn := 45) (i := 0) (j := 1) (tw hw 13 rfl) Via.refl d_prog_33_method_10_42 rfl rfl rfl (fun T22 A23 => ?_)
  refine A23.iloadN (q := 46) d_prog_33_method_10_45 rfl rfl ?_
  refine A23.iconst (q := 47) (v := -1) d_prog_33_method_10_46 rfl rfl ?_
  refine A23.stI (qn := 48) (i := 2) d_prog_33_method_10_47 rfl (own_nn hz) (by rw [List.length_set]; exact hp) rfl rfl (fun T24 A25 => ?_)
  have A26 := A25.cast (k2 := 0) (n2 := 0) (os2 := [(a, ob0 (.ref b1) (.ref b2) (.int 1)), (b1, .inr (.int, [(.int u0), (.int u1), (.int u2)])), (b2, .inr (.int, ((ps.set u1.toNatClampNeg (.int 1)).set z.toNatClampNeg (.int (-1)))))]) rfl rfl rfl
  exact A26.retV d_prog_33_method_10_48 (by decide) (by decide) ⟨rfl, rfl⟩
theorem ef_m_rem30 (m : MethodId) (x0 : Addr) (x1 : Int32) : entryFrame m #[(.ref x0), (.int x1)] 4 = mkF m 0 #[.val (.ref x0), .val (.int x1), .unset, .unset] [] := by first | (simp [entryFrame, mkF, argsToLocals, Value.category]; done) | rfl
set_option maxRecDepth 65536 in
set_option maxHeartbeats 40000000 in
theorem m_rem30 (l : Launch) (Z : State) (a0 : Array Value) (hw : ∀ d ∈ tables_1, d.before a0 Z = true) (a : Addr) (b1 : Addr) (b2 : Addr) (z : Int32) (u0 : Int32) (u1 : Int32) (u2 : Int32) (ps : List Value) (hz : 0 ≤ z.toInt) (hp : z.toNatClampNeg < ps.length) (hu : 0 ≤ u2.toInt) (hv : u2.toNatClampNeg < ps.length) (hg : ps[z.toNatClampNeg]? = some (.int 0)) :
    Pays l Z a0 (⟨"com/example/heirring/heirring/IndexedIntSet", "remove", "(I)V"⟩ : MethodName) prog_33_method_10_code 4 none ({ frames := 0, cells := 0, slots := 0, locals := 0 } : Room) #[(.ref a), (.int z)] [(a, ob0 (.ref b1) (.ref b2) (.int 3)), (b1, .inr (.int, [(.int u0), (.int u1), (.int u2)])), (b2, .inr (.int, ps))] (([(a, ob0 (.ref b1) (.ref b2) (.int 3)), (b1, .inr (.int, [(.int u0), (.int u1), (.int u2)])), (b2, .inr (.int, ps))] : Hs).map (·.1)) (fun v os' => v = none ∧ os' = [(a, ob0 (.ref b1) (.ref b2) (.int 2)), (b1, .inr (.int, [(.int u2), (.int u1), (.int u2)])), (b2, .inr (.int, ((ps.set u2.toNatClampNeg (.int 0)).set z.toNatClampNeg (.int (-1)))))]) := by
  refine Pays.of (Ls := #[.val (.ref a), .val (.int z), .unset, .unset]) (plainFor_of_name pn_2) (fun m => ef_m_rem30 m a z) ?_
  intro p e s m below meth c T0 A0
  refine A0.aloadN (q := 1) d_prog_33_method_10_0 rfl rfl rfl ?_
  refine A0.getF (qn := 4) (i := 0) (j := 1) (tw hw 13 rfl) Via.refl d_prog_33_method_10_1 rfl rfl rfl (fun T1 A2 => ?_)
  refine A2.iloadN (q := 5) d_prog_33_method_10_4 rfl rfl ?_
  refine A2.ldI (qn := 6) (i := 2) (v := (.int 0)) d_prog_33_method_10_5 rfl (own_nn hz) (hg) rfl ?_
  refine A2.istoreN (q := 7) (l' := #[.val (.ref a), .val (.int z), .val (.int 0), .unset]) d_prog_33_method_10_6 rfl rfl ?_
  refine A2.aloadN (q := 8) d_prog_33_method_10_7 rfl rfl rfl ?_
  refine A2.dup (q := 9) d_prog_33_method_10_8 rfl rfl ?_
  refine A2.getF (qn := 12) (i := 0) (j := 2) (tw hw 24 rfl) Via.refl d_prog_33_method_10_9 rfl rfl rfl (fun T3 A4 => ?_)
  refine A4.iconst (q := 13) (v := 1) d_prog_33_method_10_12 rfl rfl ?_
  refine A4.isub (q := 14) d_prog_33_method_10_13 rfl ?_
  refine Wp.top (v' := (.int 2)) rfl ?_
  refine A4.putF (qn := 17) (i := 0) (j := 2) (ty := .int) (tw hw 24 rfl) Via.refl (Or.inl (tw hw 25 rfl)) (tw hw 3 rfl) (by decide) rfl rfl d_prog_33_method_10_14 rfl rfl rfl rfl (fun T5 A6 => ?_)
  have A7 := A6.cast (k2 := 0) (n2 := 0) (os2 := [(a, ob0 (.ref b1) (.ref b2) (.int 2)), (b1, .inr (.int, [(.int u0), (.int u1), (.int u2)])), (b2, .inr (.int, ps))]) rfl rfl rfl
  refine A7.aloadN (q := 18) d_prog_33_method_10_17 rfl rfl rfl ?_
  refine A7.getF (qn := 21) (i := 0) (j := 0) (tw hw 11 rfl) Via.refl d_prog_33_method_10_18 rfl rfl rfl (fun T8 A9 => ?_)
  refine A9.aloadN (q := 22) d_prog_33_method_10_21 rfl rfl rfl ?_
  refine A9.getF (qn := 25) (i := 0) (j := 2) (tw hw 24 rfl) Via.refl d_prog_33_method_10_22 rfl rfl rfl (fun T10 A11 => ?_)
  refine A11.ldI (qn := 26) (i := 1) d_prog_33_method_10_25 rfl (by decide) rfl rfl ?_
  refine A11.istoreN (q := 27) (l' := #[.val (.ref a), .val (.int z), .val (.int 0), .val (.int u2)]) d_prog_33_method_10_26 rfl rfl ?_
  refine A11.aloadN (q := 28) d_prog_33_method_10_27 rfl rfl rfl ?_
  refine A11.getF (qn := 31) (i := 0) (j := 0) (tw hw 11 rfl) Via.refl d_prog_33_method_10_28 rfl rfl rfl (fun T12 A13 => ?_)
  refine A13.iloadN (q := 32) d_prog_33_method_10_31 rfl rfl ?_
  refine A13.iloadN (q := 33) d_prog_33_method_10_32 rfl rfl ?_
  refine A13.stI (qn := 34) (i := 1) d_prog_33_method_10_33 rfl (by decide) (show (0 : Int32).toNatClampNeg < 3 from by decide) rfl rfl (fun T14 A15 => ?_)
  have A16 := A15.cast (k2 := 0) (n2 := 0) (os2 := [(a, ob0 (.ref b1) (.ref b2) (.int 2)), (b1, .inr (.int, [(.int u2), (.int u1), (.int u2)])), (b2, .inr (.int, ps))]) rfl rfl rfl
  refine A16.aloadN (q := 35) d_prog_33_method_10_34 rfl rfl rfl ?_
  refine A16.getF (qn := 38) (i := 0) (j := 1) (tw hw 13 rfl) Via.refl d_prog_33_method_10_35 rfl rfl rfl (fun T17 A18 => ?_)
  refine A18.iloadN (q := 39) d_prog_33_method_10_38 rfl rfl ?_
  refine A18.iloadN (q := 40) d_prog_33_method_10_39 rfl rfl ?_
  refine A18.stI (qn := 41) (i := 2) d_prog_33_method_10_40 rfl (own_nn hu) (hv) rfl rfl (fun T19 A20 => ?_)
  have A21 := A20.cast (k2 := 0) (n2 := 0) (os2 := [(a, ob0 (.ref b1) (.ref b2) (.int 2)), (b1, .inr (.int, [(.int u2), (.int u1), (.int u2)])), (b2, .inr (.int, (ps.set u2.toNatClampNeg (.int 0))))]) rfl rfl rfl
  refine A21.aloadN (q := 42) d_prog_33_method_10_41 rfl rfl rfl ?_
  refine A21.getF (qn := 45) (i := 0) (j := 1) (tw hw 13 rfl) Via.refl d_prog_33_method_10_42 rfl rfl rfl (fun T22 A23 => ?_)
  refine A23.iloadN (q := 46) d_prog_33_method_10_45 rfl rfl ?_
  refine A23.iconst (q := 47) (v := -1) d_prog_33_method_10_46 rfl rfl ?_
  refine A23.stI (qn := 48) (i := 2) d_prog_33_method_10_47 rfl (own_nn hz) (by rw [List.length_set]; exact hp) rfl rfl (fun T24 A25 => ?_)
  have A26 := A25.cast (k2 := 0) (n2 := 0) (os2 := [(a, ob0 (.ref b1) (.ref b2) (.int 2)), (b1, .inr (.int, [(.int u2), (.int u1), (.int u2)])), (b2, .inr (.int, ((ps.set u2.toNatClampNeg (.int 0)).set z.toNatClampNeg (.int (-1)))))]) rfl rfl rfl
  exact A26.retV d_prog_33_method_10_48 (by decide) (by decide) ⟨rfl, rfl⟩
theorem ef_m_rem31 (m : MethodId) (x0 : Addr) (x1 : Int32) : entryFrame m #[(.ref x0), (.int x1)] 4 = mkF m 0 #[.val (.ref x0), .val (.int x1), .unset, .unset] [] := by first | (simp [entryFrame, mkF, argsToLocals, Value.category]; done) | rfl
set_option maxRecDepth 65536 in
set_option maxHeartbeats 40000000 in
theorem m_rem31 (l : Launch) (Z : State) (a0 : Array Value) (hw : ∀ d ∈ tables_1, d.before a0 Z = true) (a : Addr) (b1 : Addr) (b2 : Addr) (z : Int32) (u0 : Int32) (u1 : Int32) (u2 : Int32) (ps : List Value) (hz : 0 ≤ z.toInt) (hp : z.toNatClampNeg < ps.length) (hu : 0 ≤ u2.toInt) (hv : u2.toNatClampNeg < ps.length) (hg : ps[z.toNatClampNeg]? = some (.int 1)) :
    Pays l Z a0 (⟨"com/example/heirring/heirring/IndexedIntSet", "remove", "(I)V"⟩ : MethodName) prog_33_method_10_code 4 none ({ frames := 0, cells := 0, slots := 0, locals := 0 } : Room) #[(.ref a), (.int z)] [(a, ob0 (.ref b1) (.ref b2) (.int 3)), (b1, .inr (.int, [(.int u0), (.int u1), (.int u2)])), (b2, .inr (.int, ps))] (([(a, ob0 (.ref b1) (.ref b2) (.int 3)), (b1, .inr (.int, [(.int u0), (.int u1), (.int u2)])), (b2, .inr (.int, ps))] : Hs).map (·.1)) (fun v os' => v = none ∧ os' = [(a, ob0 (.ref b1) (.ref b2) (.int 2)), (b1, .inr (.int, [(.int u0), (.int u2), (.int u2)])), (b2, .inr (.int, ((ps.set u2.toNatClampNeg (.int 1)).set z.toNatClampNeg (.int (-1)))))]) := by
  refine Pays.of (Ls := #[.val (.ref a), .val (.int z), .unset, .unset]) (plainFor_of_name pn_2) (fun m => ef_m_rem31 m a z) ?_
  intro p e s m below meth c T0 A0
  refine A0.aloadN (q := 1) d_prog_33_method_10_0 rfl rfl rfl ?_
  refine A0.getF (qn := 4) (i := 0) (j := 1) (tw hw 13 rfl) Via.refl d_prog_33_method_10_1 rfl rfl rfl (fun T1 A2 => ?_)
  refine A2.iloadN (q := 5) d_prog_33_method_10_4 rfl rfl ?_
  refine A2.ldI (qn := 6) (i := 2) (v := (.int 1)) d_prog_33_method_10_5 rfl (own_nn hz) (hg) rfl ?_
  refine A2.istoreN (q := 7) (l' := #[.val (.ref a), .val (.int z), .val (.int 1), .unset]) d_prog_33_method_10_6 rfl rfl ?_
  refine A2.aloadN (q := 8) d_prog_33_method_10_7 rfl rfl rfl ?_
  refine A2.dup (q := 9) d_prog_33_method_10_8 rfl rfl ?_
  refine A2.getF (qn := 12) (i := 0) (j := 2) (tw hw 24 rfl) Via.refl d_prog_33_method_10_9 rfl rfl rfl (fun T3 A4 => ?_)
  refine A4.iconst (q := 13) (v := 1) d_prog_33_method_10_12 rfl rfl ?_
  refine A4.isub (q := 14) d_prog_33_method_10_13 rfl ?_
  refine Wp.top (v' := (.int 2)) rfl ?_
  refine A4.putF (qn := 17) (i := 0) (j := 2) (ty := .int) (tw hw 24 rfl) Via.refl (Or.inl (tw hw 25 rfl)) (tw hw 3 rfl) (by decide) rfl rfl d_prog_33_method_10_14 rfl rfl rfl rfl (fun T5 A6 => ?_)
  have A7 := A6.cast (k2 := 0) (n2 := 0) (os2 := [(a, ob0 (.ref b1) (.ref b2) (.int 2)), (b1, .inr (.int, [(.int u0), (.int u1), (.int u2)])), (b2, .inr (.int, ps))]) rfl rfl rfl
  refine A7.aloadN (q := 18) d_prog_33_method_10_17 rfl rfl rfl ?_
  refine A7.getF (qn := 21) (i := 0) (j := 0) (tw hw 11 rfl) Via.refl d_prog_33_method_10_18 rfl rfl rfl (fun T8 A9 => ?_)
  refine A9.aloadN (q := 22) d_prog_33_method_10_21 rfl rfl rfl ?_
  refine A9.getF (qn := 25) (i := 0) (j := 2) (tw hw 24 rfl) Via.refl d_prog_33_method_10_22 rfl rfl rfl (fun T10 A11 => ?_)
  refine A11.ldI (qn := 26) (i := 1) d_prog_33_method_10_25 rfl (by decide) rfl rfl ?_
  refine A11.istoreN (q := 27) (l' := #[.val (.ref a), .val (.int z), .val (.int 1), .val (.int u2)]) d_prog_33_method_10_26 rfl rfl ?_
  refine A11.aloadN (q := 28) d_prog_33_method_10_27 rfl rfl rfl ?_
  refine A11.getF (qn := 31) (i := 0) (j := 0) (tw hw 11 rfl) Via.refl d_prog_33_method_10_28 rfl rfl rfl (fun T12 A13 => ?_)
  refine A13.iloadN (q := 32) d_prog_33_method_10_31 rfl rfl ?_
  refine A13.iloadN (q := 33) d_prog_33_method_10_32 rfl rfl ?_
  refine A13.stI (qn := 34) (i := 1) d_prog_33_method_10_33 rfl (by decide) (show (1 : Int32).toNatClampNeg < 3 from by decide) rfl rfl (fun T14 A15 => ?_)
  have A16 := A15.cast (k2 := 0) (n2 := 0) (os2 := [(a, ob0 (.ref b1) (.ref b2) (.int 2)), (b1, .inr (.int, [(.int u0), (.int u2), (.int u2)])), (b2, .inr (.int, ps))]) rfl rfl rfl
  refine A16.aloadN (q := 35) d_prog_33_method_10_34 rfl rfl rfl ?_
  refine A16.getF (qn := 38) (i := 0) (j := 1) (tw hw 13 rfl) Via.refl d_prog_33_method_10_35 rfl rfl rfl (fun T17 A18 => ?_)
  refine A18.iloadN (q := 39) d_prog_33_method_10_38 rfl rfl ?_
  refine A18.iloadN (q := 40) d_prog_33_method_10_39 rfl rfl ?_
  refine A18.stI (qn := 41) (i := 2) d_prog_33_method_10_40 rfl (own_nn hu) (hv) rfl rfl (fun T19 A20 => ?_)
  have A21 := A20.cast (k2 := 0) (n2 := 0) (os2 := [(a, ob0 (.ref b1) (.ref b2) (.int 2)), (b1, .inr (.int, [(.int u0), (.int u2), (.int u2)])), (b2, .inr (.int, (ps.set u2.toNatClampNeg (.int 1))))]) rfl rfl rfl
  refine A21.aloadN (q := 42) d_prog_33_method_10_41 rfl rfl rfl ?_
  refine A21.getF (qn := 45) (i := 0) (j := 1) (tw hw 13 rfl) Via.refl d_prog_33_method_10_42 rfl rfl rfl (fun T22 A23 => ?_)
  refine A23.iloadN (q := 46) d_prog_33_method_10_45 rfl rfl ?_
  refine A23.iconst (q := 47) (v := -1) d_prog_33_method_10_46 rfl rfl ?_
  refine A23.stI (qn := 48) (i := 2) d_prog_33_method_10_47 rfl (own_nn hz) (by rw [List.length_set]; exact hp) rfl rfl (fun T24 A25 => ?_)
  have A26 := A25.cast (k2 := 0) (n2 := 0) (os2 := [(a, ob0 (.ref b1) (.ref b2) (.int 2)), (b1, .inr (.int, [(.int u0), (.int u2), (.int u2)])), (b2, .inr (.int, ((ps.set u2.toNatClampNeg (.int 1)).set z.toNatClampNeg (.int (-1)))))]) rfl rfl rfl
  exact A26.retV d_prog_33_method_10_48 (by decide) (by decide) ⟨rfl, rfl⟩
theorem ef_m_rem32 (m : MethodId) (x0 : Addr) (x1 : Int32) : entryFrame m #[(.ref x0), (.int x1)] 4 = mkF m 0 #[.val (.ref x0), .val (.int x1), .unset, .unset] [] := by first | (simp [entryFrame, mkF, argsToLocals, Value.category]; done) | rfl
set_option maxRecDepth 65536 in
set_option maxHeartbeats 40000000 in
theorem m_rem32 (l : Launch) (Z : State) (a0 : Array Value) (hw : ∀ d ∈ tables_1, d.before a0 Z = true) (a : Addr) (b1 : Addr) (b2 : Addr) (z : Int32) (u0 : Int32) (u1 : Int32) (u2 : Int32) (ps : List Value) (hz : 0 ≤ z.toInt) (hp : z.toNatClampNeg < ps.length) (hu : 0 ≤ u2.toInt) (hv : u2.toNatClampNeg < ps.length) (hg : ps[z.toNatClampNeg]? = some (.int 2)) :
    Pays l Z a0 (⟨"com/example/heirring/heirring/IndexedIntSet", "remove", "(I)V"⟩ : MethodName) prog_33_method_10_code 4 none ({ frames := 0, cells := 0, slots := 0, locals := 0 } : Room) #[(.ref a), (.int z)] [(a, ob0 (.ref b1) (.ref b2) (.int 3)), (b1, .inr (.int, [(.int u0), (.int u1), (.int u2)])), (b2, .inr (.int, ps))] (([(a, ob0 (.ref b1) (.ref b2) (.int 3)), (b1, .inr (.int, [(.int u0), (.int u1), (.int u2)])), (b2, .inr (.int, ps))] : Hs).map (·.1)) (fun v os' => v = none ∧ os' = [(a, ob0 (.ref b1) (.ref b2) (.int 2)), (b1, .inr (.int, [(.int u0), (.int u1), (.int u2)])), (b2, .inr (.int, ((ps.set u2.toNatClampNeg (.int 2)).set z.toNatClampNeg (.int (-1)))))]) := by
  refine Pays.of (Ls := #[.val (.ref a), .val (.int z), .unset, .unset]) (plainFor_of_name pn_2) (fun m => ef_m_rem32 m a z) ?_
  intro p e s m below meth c T0 A0
  refine A0.aloadN (q := 1) d_prog_33_method_10_0 rfl rfl rfl ?_
  refine A0.getF (qn := 4) (i := 0) (j := 1) (tw hw 13 rfl) Via.refl d_prog_33_method_10_1 rfl rfl rfl (fun T1 A2 => ?_)
  refine A2.iloadN (q := 5) d_prog_33_method_10_4 rfl rfl ?_
  refine A2.ldI (qn := 6) (i := 2) (v := (.int 2)) d_prog_33_method_10_5 rfl (own_nn hz) (hg) rfl ?_
  refine A2.istoreN (q := 7) (l' := #[.val (.ref a), .val (.int z), .val (.int 2), .unset]) d_prog_33_method_10_6 rfl rfl ?_
  refine A2.aloadN (q := 8) d_prog_33_method_10_7 rfl rfl rfl ?_
  refine A2.dup (q := 9) d_prog_33_method_10_8 rfl rfl ?_
  refine A2.getF (qn := 12) (i := 0) (j := 2) (tw hw 24 rfl) Via.refl d_prog_33_method_10_9 rfl rfl rfl (fun T3 A4 => ?_)
  refine A4.iconst (q := 13) (v := 1) d_prog_33_method_10_12 rfl rfl ?_
  refine A4.isub (q := 14) d_prog_33_method_10_13 rfl ?_
  refine Wp.top (v' := (.int 2)) rfl ?_
  refine A4.putF (qn := 17) (i := 0) (j := 2) (ty := .int) (tw hw 24 rfl) Via.refl (Or.inl (tw hw 25 rfl)) (tw hw 3 rfl) (by decide) rfl rfl d_prog_33_method_10_14 rfl rfl rfl rfl (fun T5 A6 => ?_)
  have A7 := A6.cast (k2 := 0) (n2 := 0) (os2 := [(a, ob0 (.ref b1) (.ref b2) (.int 2)), (b1, .inr (.int, [(.int u0), (.int u1), (.int u2)])), (b2, .inr (.int, ps))]) rfl rfl rfl
  refine A7.aloadN (q := 18) d_prog_33_method_10_17 rfl rfl rfl ?_
  refine A7.getF (qn := 21) (i := 0) (j := 0) (tw hw 11 rfl) Via.refl d_prog_33_method_10_18 rfl rfl rfl (fun T8 A9 => ?_)
  refine A9.aloadN (q := 22) d_prog_33_method_10_21 rfl rfl rfl ?_
  refine A9.getF (qn := 25) (i := 0) (j := 2) (tw hw 24 rfl) Via.refl d_prog_33_method_10_22 rfl rfl rfl (fun T10 A11 => ?_)
  refine A11.ldI (qn := 26) (i := 1) d_prog_33_method_10_25 rfl (by decide) rfl rfl ?_
  refine A11.istoreN (q := 27) (l' := #[.val (.ref a), .val (.int z), .val (.int 2), .val (.int u2)]) d_prog_33_method_10_26 rfl rfl ?_
  refine A11.aloadN (q := 28) d_prog_33_method_10_27 rfl rfl rfl ?_
  refine A11.getF (qn := 31) (i := 0) (j := 0) (tw hw 11 rfl) Via.refl d_prog_33_method_10_28 rfl rfl rfl (fun T12 A13 => ?_)
  refine A13.iloadN (q := 32) d_prog_33_method_10_31 rfl rfl ?_
  refine A13.iloadN (q := 33) d_prog_33_method_10_32 rfl rfl ?_
  refine A13.stI (qn := 34) (i := 1) d_prog_33_method_10_33 rfl (by decide) (show (2 : Int32).toNatClampNeg < 3 from by decide) rfl rfl (fun T14 A15 => ?_)
  have A16 := A15.cast (k2 := 0) (n2 := 0) (os2 := [(a, ob0 (.ref b1) (.ref b2) (.int 2)), (b1, .inr (.int, [(.int u0), (.int u1), (.int u2)])), (b2, .inr (.int, ps))]) rfl rfl rfl
  refine A16.aloadN (q := 35) d_prog_33_method_10_34 rfl rfl rfl ?_
  refine A16.getF (qn := 38) (i := 0) (j := 1) (tw hw 13 rfl) Via.refl d_prog_33_method_10_35 rfl rfl rfl (fun T17 A18 => ?_)
  refine A18.iloadN (q := 39) d_prog_33_method_10_38 rfl rfl ?_
  refine A18.iloadN (q := 40) d_prog_33_method_10_39 rfl rfl ?_
  refine A18.stI (qn := 41) (i := 2) d_prog_33_method_10_40 rfl (own_nn hu) (hv) rfl rfl (fun T19 A20 => ?_)
  have A21 := A20.cast (k2 := 0) (n2 := 0) (os2 := [(a, ob0 (.ref b1) (.ref b2) (.int 2)), (b1, .inr (.int, [(.int u0), (.int u1), (.int u2)])), (b2, .inr (.int, (ps.set u2.toNatClampNeg (.int 2))))]) rfl rfl rfl
  refine A21.aloadN (q := 42) d_prog_33_method_10_41 rfl rfl rfl ?_
  refine A21.getF (qn := 45) (i := 0) (j := 1) (tw hw 13 rfl) Via.refl d_prog_33_method_10_42 rfl rfl rfl (fun T22 A23 => ?_)
  refine A23.iloadN (q := 46) d_prog_33_method_10_45 rfl rfl ?_
  refine A23.iconst (q := 47) (v := -1) d_prog_33_method_10_46 rfl rfl ?_
  refine A23.stI (qn := 48) (i := 2) d_prog_33_method_10_47 rfl (own_nn hz) (by rw [List.length_set]; exact hp) rfl rfl (fun T24 A25 => ?_)
  have A26 := A25.cast (k2 := 0) (n2 := 0) (os2 := [(a, ob0 (.ref b1) (.ref b2) (.int 2)), (b1, .inr (.int, [(.int u0), (.int u1), (.int u2)])), (b2, .inr (.int, ((ps.set u2.toNatClampNeg (.int 2)).set z.toNatClampNeg (.int (-1)))))]) rfl rfl rfl
  exact A26.retV d_prog_33_method_10_48 (by decide) (by decide) ⟨rfl, rfl⟩
theorem d_prog_33_method_8_0 : decode prog_33_method_8_code 0 = .ok (.aload_n 0, 1) := by decide +kernel
theorem d_prog_33_method_8_1 : decode prog_33_method_8_code 1 = .ok (.getfield 13, 3) := by decide +kernel
theorem d_prog_33_method_8_4 : decode prog_33_method_8_code 4 = .ok (.iload_n 1, 1) := by decide +kernel
theorem d_prog_33_method_8_5 : decode prog_33_method_8_code 5 = .ok (.iaload, 1) := by decide +kernel
theorem d_prog_33_method_8_6 : decode prog_33_method_8_code 6 = .ok (.ireturn, 1) := by decide +kernel
theorem ef_m_place0 (m : MethodId) (x0 : Addr) : entryFrame m #[(.ref x0), (.int 0)] 2 = mkF m 0 #[.val (.ref x0), .val (.int 0)] [] := by first | (simp [entryFrame, mkF, argsToLocals, Value.category]; done) | rfl
set_option maxRecDepth 65536 in
set_option maxHeartbeats 40000000 in
theorem m_place0 (l : Launch) (Z : State) (a0 : Array Value) (hw : ∀ d ∈ tables_1, d.before a0 Z = true) (a : Addr) (b1 : Addr) (b2 : Addr) (f : Int32) (ps : List Value) (r0 : Int32) (hp : ps[(0 : Int32).toNatClampNeg]? = some (.int r0)) :
    Pays l Z a0 (⟨"com/example/heirring/heirring/IndexedIntSet", "place", "(I)I"⟩ : MethodName) prog_33_method_8_code 2 (some .int) ({ frames := 0, cells := 0, slots := 0, locals := 0 } : Room) #[(.ref a), (.int 0)] [(a, ob0 (.ref b1) (.ref b2) (.int f)), (b2, .inr (.int, ps))] (([(a, ob0 (.ref b1) (.ref b2) (.int f)), (b2, .inr (.int, ps))] : Hs).map (·.1)) (fun v os' => v = some (.int r0) ∧ os' = [(a, ob0 (.ref b1) (.ref b2) (.int f)), (b2, .inr (.int, ps))]) := by
  refine Pays.of (Ls := #[.val (.ref a), .val (.int 0)]) (plainFor_of_name pn_2) (fun m => ef_m_place0 m a) ?_
  intro p e s m below meth c T0 A0
  refine A0.aloadN (q := 1) d_prog_33_method_8_0 rfl rfl rfl ?_
  refine A0.getF (qn := 4) (i := 0) (j := 1) (tw hw 13 rfl) Via.refl d_prog_33_method_8_1 rfl rfl rfl (fun T1 A2 => ?_)
  refine A2.iloadN (q := 5) d_prog_33_method_8_4 rfl rfl ?_
  refine A2.ldI (qn := 6) (i := 1) (v := (.int r0)) d_prog_33_method_8_5 rfl (by decide) (hp) rfl ?_
  exact A2.retI d_prog_33_method_8_6 (by decide) (by decide) ⟨rfl, rfl⟩
theorem ef_m_place1 (m : MethodId) (x0 : Addr) : entryFrame m #[(.ref x0), (.int 1)] 2 = mkF m 0 #[.val (.ref x0), .val (.int 1)] [] := by first | (simp [entryFrame, mkF, argsToLocals, Value.category]; done) | rfl
set_option maxRecDepth 65536 in
set_option maxHeartbeats 40000000 in
theorem m_place1 (l : Launch) (Z : State) (a0 : Array Value) (hw : ∀ d ∈ tables_1, d.before a0 Z = true) (a : Addr) (b1 : Addr) (b2 : Addr) (f : Int32) (ps : List Value) (r0 : Int32) (hp : ps[(1 : Int32).toNatClampNeg]? = some (.int r0)) :
    Pays l Z a0 (⟨"com/example/heirring/heirring/IndexedIntSet", "place", "(I)I"⟩ : MethodName) prog_33_method_8_code 2 (some .int) ({ frames := 0, cells := 0, slots := 0, locals := 0 } : Room) #[(.ref a), (.int 1)] [(a, ob0 (.ref b1) (.ref b2) (.int f)), (b2, .inr (.int, ps))] (([(a, ob0 (.ref b1) (.ref b2) (.int f)), (b2, .inr (.int, ps))] : Hs).map (·.1)) (fun v os' => v = some (.int r0) ∧ os' = [(a, ob0 (.ref b1) (.ref b2) (.int f)), (b2, .inr (.int, ps))]) := by
  refine Pays.of (Ls := #[.val (.ref a), .val (.int 1)]) (plainFor_of_name pn_2) (fun m => ef_m_place1 m a) ?_
  intro p e s m below meth c T0 A0
  refine A0.aloadN (q := 1) d_prog_33_method_8_0 rfl rfl rfl ?_
  refine A0.getF (qn := 4) (i := 0) (j := 1) (tw hw 13 rfl) Via.refl d_prog_33_method_8_1 rfl rfl rfl (fun T1 A2 => ?_)
  refine A2.iloadN (q := 5) d_prog_33_method_8_4 rfl rfl ?_
  refine A2.ldI (qn := 6) (i := 1) (v := (.int r0)) d_prog_33_method_8_5 rfl (by decide) (hp) rfl ?_
  exact A2.retI d_prog_33_method_8_6 (by decide) (by decide) ⟨rfl, rfl⟩
theorem ef_m_place2 (m : MethodId) (x0 : Addr) : entryFrame m #[(.ref x0), (.int 2)] 2 = mkF m 0 #[.val (.ref x0), .val (.int 2)] [] := by first | (simp [entryFrame, mkF, argsToLocals, Value.category]; done) | rfl
set_option maxRecDepth 65536 in
set_option maxHeartbeats 40000000 in
theorem m_place2 (l : Launch) (Z : State) (a0 : Array Value) (hw : ∀ d ∈ tables_1, d.before a0 Z = true) (a : Addr) (b1 : Addr) (b2 : Addr) (f : Int32) (ps : List Value) (r0 : Int32) (hp : ps[(2 : Int32).toNatClampNeg]? = some (.int r0)) :
    Pays l Z a0 (⟨"com/example/heirring/heirring/IndexedIntSet", "place", "(I)I"⟩ : MethodName) prog_33_method_8_code 2 (some .int) ({ frames := 0, cells := 0, slots := 0, locals := 0 } : Room) #[(.ref a), (.int 2)] [(a, ob0 (.ref b1) (.ref b2) (.int f)), (b2, .inr (.int, ps))] (([(a, ob0 (.ref b1) (.ref b2) (.int f)), (b2, .inr (.int, ps))] : Hs).map (·.1)) (fun v os' => v = some (.int r0) ∧ os' = [(a, ob0 (.ref b1) (.ref b2) (.int f)), (b2, .inr (.int, ps))]) := by
  refine Pays.of (Ls := #[.val (.ref a), .val (.int 2)]) (plainFor_of_name pn_2) (fun m => ef_m_place2 m a) ?_
  intro p e s m below meth c T0 A0
  refine A0.aloadN (q := 1) d_prog_33_method_8_0 rfl rfl rfl ?_
  refine A0.getF (qn := 4) (i := 0) (j := 1) (tw hw 13 rfl) Via.refl d_prog_33_method_8_1 rfl rfl rfl (fun T1 A2 => ?_)
  refine A2.iloadN (q := 5) d_prog_33_method_8_4 rfl rfl ?_
  refine A2.ldI (qn := 6) (i := 1) (v := (.int r0)) d_prog_33_method_8_5 rfl (by decide) (hp) rfl ?_
  exact A2.retI d_prog_33_method_8_6 (by decide) (by decide) ⟨rfl, rfl⟩
theorem d_prog_33_method_7_0 : decode prog_33_method_7_code 0 = .ok (.aload_n 0, 1) := by decide +kernel
theorem d_prog_33_method_7_1 : decode prog_33_method_7_code 1 = .ok (.getfield 7, 3) := by decide +kernel
theorem d_prog_33_method_7_4 : decode prog_33_method_7_code 4 = .ok (.iload_n 1, 1) := by decide +kernel
theorem d_prog_33_method_7_5 : decode prog_33_method_7_code 5 = .ok (.iaload, 1) := by decide +kernel
theorem d_prog_33_method_7_6 : decode prog_33_method_7_code 6 = .ok (.ireturn, 1) := by decide +kernel
theorem ef_m_get0 (m : MethodId) (x0 : Addr) : entryFrame m #[(.ref x0), (.int 0)] 2 = mkF m 0 #[.val (.ref x0), .val (.int 0)] [] := by first | (simp [entryFrame, mkF, argsToLocals, Value.category]; done) | rfl
set_option maxRecDepth 65536 in
set_option maxHeartbeats 40000000 in
theorem m_get0 (l : Launch) (Z : State) (a0 : Array Value) (hw : ∀ d ∈ tables_1, d.before a0 Z = true) (a : Addr) (b1 : Addr) (b2 : Addr) (f : Int32) (u0 : Int32) (u1 : Int32) (u2 : Int32) :
    Pays l Z a0 (⟨"com/example/heirring/heirring/IndexedIntSet", "get", "(I)I"⟩ : MethodName) prog_33_method_7_code 2 (some .int) ({ frames := 0, cells := 0, slots := 0, locals := 0 } : Room) #[(.ref a), (.int 0)] [(a, ob0 (.ref b1) (.ref b2) (.int f)), (b1, .inr (.int, [(.int u0), (.int u1), (.int u2)]))] (([(a, ob0 (.ref b1) (.ref b2) (.int f)), (b1, .inr (.int, [(.int u0), (.int u1), (.int u2)]))] : Hs).map (·.1)) (fun v os' => v = some (.int u0) ∧ os' = [(a, ob0 (.ref b1) (.ref b2) (.int f)), (b1, .inr (.int, [(.int u0), (.int u1), (.int u2)]))]) := by
  refine Pays.of (Ls := #[.val (.ref a), .val (.int 0)]) (plainFor_of_name pn_2) (fun m => ef_m_get0 m a) ?_
  intro p e s m below meth c T0 A0
  refine A0.aloadN (q := 1) d_prog_33_method_7_0 rfl rfl rfl ?_
  refine A0.getF (qn := 4) (i := 0) (j := 0) (tw hw 11 rfl) Via.refl d_prog_33_method_7_1 rfl rfl rfl (fun T1 A2 => ?_)
  refine A2.iloadN (q := 5) d_prog_33_method_7_4 rfl rfl ?_
  refine A2.ldI (qn := 6) (i := 1) d_prog_33_method_7_5 rfl (by decide) rfl rfl ?_
  exact A2.retI d_prog_33_method_7_6 (by decide) (by decide) ⟨rfl, rfl⟩
theorem ef_m_get1 (m : MethodId) (x0 : Addr) : entryFrame m #[(.ref x0), (.int 1)] 2 = mkF m 0 #[.val (.ref x0), .val (.int 1)] [] := by first | (simp [entryFrame, mkF, argsToLocals, Value.category]; done) | rfl
set_option maxRecDepth 65536 in
set_option maxHeartbeats 40000000 in
theorem m_get1 (l : Launch) (Z : State) (a0 : Array Value) (hw : ∀ d ∈ tables_1, d.before a0 Z = true) (a : Addr) (b1 : Addr) (b2 : Addr) (f : Int32) (u0 : Int32) (u1 : Int32) (u2 : Int32) :
    Pays l Z a0 (⟨"com/example/heirring/heirring/IndexedIntSet", "get", "(I)I"⟩ : MethodName) prog_33_method_7_code 2 (some .int) ({ frames := 0, cells := 0, slots := 0, locals := 0 } : Room) #[(.ref a), (.int 1)] [(a, ob0 (.ref b1) (.ref b2) (.int f)), (b1, .inr (.int, [(.int u0), (.int u1), (.int u2)]))] (([(a, ob0 (.ref b1) (.ref b2) (.int f)), (b1, .inr (.int, [(.int u0), (.int u1), (.int u2)]))] : Hs).map (·.1)) (fun v os' => v = some (.int u1) ∧ os' = [(a, ob0 (.ref b1) (.ref b2) (.int f)), (b1, .inr (.int, [(.int u0), (.int u1), (.int u2)]))]) := by
  refine Pays.of (Ls := #[.val (.ref a), .val (.int 1)]) (plainFor_of_name pn_2) (fun m => ef_m_get1 m a) ?_
  intro p e s m below meth c T0 A0
  refine A0.aloadN (q := 1) d_prog_33_method_7_0 rfl rfl rfl ?_
  refine A0.getF (qn := 4) (i := 0) (j := 0) (tw hw 11 rfl) Via.refl d_prog_33_method_7_1 rfl rfl rfl (fun T1 A2 => ?_)
  refine A2.iloadN (q := 5) d_prog_33_method_7_4 rfl rfl ?_
  refine A2.ldI (qn := 6) (i := 1) d_prog_33_method_7_5 rfl (by decide) rfl rfl ?_
  exact A2.retI d_prog_33_method_7_6 (by decide) (by decide) ⟨rfl, rfl⟩
theorem d_prog_33_method_5_0 : decode prog_33_method_5_code 0 = .ok (.aload_n 0, 1) := by decide +kernel
theorem d_prog_33_method_5_1 : decode prog_33_method_5_code 1 = .ok (.getfield 28, 3) := by decide +kernel
theorem d_prog_33_method_5_4 : decode prog_33_method_5_code 4 = .ok (.ireturn, 1) := by decide +kernel
theorem ef_m_size (m : MethodId) (x0 : Addr) : entryFrame m #[(.ref x0)] 1 = mkF m 0 #[.val (.ref x0)] [] := by first | (simp [entryFrame, mkF, argsToLocals, Value.category]; done) | rfl
set_option maxRecDepth 65536 in
set_option maxHeartbeats 40000000 in
theorem m_size (l : Launch) (Z : State) (a0 : Array Value) (hw : ∀ d ∈ tables_1, d.before a0 Z = true) (a : Addr) (b1 : Addr) (b2 : Addr) (f : Int32) :
    Pays l Z a0 (⟨"com/example/heirring/heirring/IndexedIntSet", "size", "()I"⟩ : MethodName) prog_33_method_5_code 1 (some .int) ({ frames := 0, cells := 0, slots := 0, locals := 0 } : Room) #[(.ref a)] [(a, ob0 (.ref b1) (.ref b2) (.int f))] (([(a, ob0 (.ref b1) (.ref b2) (.int f))] : Hs).map (·.1)) (fun v os' => v = some (.int f) ∧ os' = [(a, ob0 (.ref b1) (.ref b2) (.int f))]) := by
  refine Pays.of (Ls := #[.val (.ref a)]) (plainFor_of_name pn_2) (fun m => ef_m_size m a) ?_
  intro p e s m below meth c T0 A0
  refine A0.aloadN (q := 1) d_prog_33_method_5_0 rfl rfl rfl ?_
  refine A0.getF (qn := 4) (i := 0) (j := 2) (tw hw 24 rfl) Via.refl d_prog_33_method_5_1 rfl rfl rfl (fun T1 A2 => ?_)
  exact A2.retI d_prog_33_method_5_4 (by decide) (by decide) ⟨rfl, rfl⟩
theorem d_method_2_0 : decode method_2_code 0 = .ok (.iload_n 1, 1) := by decide +kernel
theorem d_method_2_1 : decode method_2_code 1 = .ok (.ifCond .le 12, 3) := by decide +kernel
theorem d_method_2_13 : decode method_2_code 13 = .ok (.iload_n 1, 1) := by decide +kernel
theorem d_method_2_14 : decode method_2_code 14 = .ok (.iconst 1, 1) := by decide +kernel
theorem d_method_2_15 : decode method_2_code 15 = .ok (.if_icmp .le 12, 3) := by decide +kernel
theorem d_method_2_27 : decode method_2_code 27 = .ok (.iconst (-1), 1) := by decide +kernel
theorem d_method_2_28 : decode method_2_code 28 = .ok (.ireturn, 1) := by decide +kernel
theorem pn_3 : plainName "com/example/heirring/heirring/IndexedIntSetRemovePinLaw" = true := by first | (simp [plainName, overriddenIn]; done) | decide +kernel
theorem ef_m_exp0 (m : MethodId) (x0 : Addr) (x2 : Int32) : entryFrame m #[(.ref x0), (.int 0), (.int x2)] 3 = mkF m 0 #[.val (.ref x0), .val (.int 0), .val (.int x2)] [] := by first | (simp [entryFrame, mkF, argsToLocals, Value.category]; done) | rfl
set_option maxRecDepth 65536 in
set_option maxHeartbeats 40000000 in
theorem m_exp0 (l : Launch) (Z : State) (a0 : Array Value) (hw : ∀ d ∈ tables_1, d.before a0 Z = true) (b : Addr) (z : Int32) (u0 : Int32) (u1 : Int32) (u2 : Int32) :
    Pays l Z a0 (⟨"com/example/heirring/heirring/IndexedIntSetRemovePinLaw", "expPlace", "([III)I"⟩ : MethodName) method_2_code 3 (some .int) ({ frames := 0, cells := 0, slots := 0, locals := 0 } : Room) #[(.ref b), (.int 0), (.int z)] [(b, .inr (.int, [(.int u0), (.int u1), (.int u2)]))] (([(b, .inr (.int, [(.int u0), (.int u1), (.int u2)]))] : Hs).map (·.1)) (fun v os' => ∃ (r : Int32), v = some (.int r) ∧ os' = [(b, .inr (.int, [(.int u0), (.int u1), (.int u2)]))] ∧ r = -1) := by
  refine Pays.of (Ls := #[.val (.ref b), .val (.int 0), .val (.int z)]) (plainFor_of_name pn_3) (fun m => ef_m_exp0 m b z) ?_
  intro p e s m below meth c T0 A0
  refine A0.iloadN (q := 1) d_method_2_0 rfl rfl ?_
  refine A0.ifYes (q := 13) d_method_2_1 (by decide) (by decide) (by decide) ?_
  refine A0.iloadN (q := 14) d_method_2_13 rfl rfl ?_
  refine A0.iconst (q := 15) (v := 1) d_method_2_14 rfl rfl ?_
  refine A0.icmpYes (q := 27) d_method_2_15 (by decide) (by decide) (by decide) ?_
  refine A0.iconst (q := 28) (v := -1) d_method_2_27 rfl rfl ?_
  refine A0.retI d_method_2_28 (by decide) (by decide) ⟨(-1 : Int32), rfl, rfl, ?_⟩
  clear hw A0
  (try simp only [true_and, and_true, false_and, and_false, true_or, or_true, false_or, or_false, not_true_eq_false, not_false_eq_true, Int32.lt_iff_toInt_lt, Int64.lt_iff_toInt_lt, Int32.le_iff_toInt_le, Int64.le_iff_toInt_le, ← Int32.toInt_inj, ← Int64.toInt_inj, Int32.toInt_add, Int32.toInt_sub, Int32.toInt_neg, Int64.toInt_add, Int64.toInt_sub, Int64.toInt_neg, Int64.toInt_mul, Int32.toInt_toInt64, bm32, bm64, l32_m1, l32_0, l32_1, l32_2, l32_3] at  ⊢) <;> omega
theorem d_method_2_4 : decode method_2_code 4 = .ok (.aload_n 0, 1) := by decide +kernel
theorem d_method_2_5 : decode method_2_code 5 = .ok (.iconst 0, 1) := by decide +kernel
theorem d_method_2_6 : decode method_2_code 6 = .ok (.iaload, 1) := by decide +kernel
theorem d_method_2_7 : decode method_2_code 7 = .ok (.iload_n 2, 1) := by decide +kernel
theorem d_method_2_8 : decode method_2_code 8 = .ok (.if_icmp .ne 5, 3) := by decide +kernel
theorem d_method_2_11 : decode method_2_code 11 = .ok (.iconst 0, 1) := by decide +kernel
theorem d_method_2_12 : decode method_2_code 12 = .ok (.ireturn, 1) := by decide +kernel
theorem ef_m_exp1 (m : MethodId) (x0 : Addr) (x2 : Int32) : entryFrame m #[(.ref x0), (.int 1), (.int x2)] 3 = mkF m 0 #[.val (.ref x0), .val (.int 1), .val (.int x2)] [] := by first | (simp [entryFrame, mkF, argsToLocals, Value.category]; done) | rfl
set_option maxRecDepth 65536 in
set_option maxHeartbeats 40000000 in
theorem m_exp1 (l : Launch) (Z : State) (a0 : Array Value) (hw : ∀ d ∈ tables_1, d.before a0 Z = true) (b : Addr) (z : Int32) (u0 : Int32) (u1 : Int32) (u2 : Int32) :
    Pays l Z a0 (⟨"com/example/heirring/heirring/IndexedIntSetRemovePinLaw", "expPlace", "([III)I"⟩ : MethodName) method_2_code 3 (some .int) ({ frames := 0, cells := 0, slots := 0, locals := 0 } : Room) #[(.ref b), (.int 1), (.int z)] [(b, .inr (.int, [(.int u0), (.int u1), (.int u2)]))] (([(b, .inr (.int, [(.int u0), (.int u1), (.int u2)]))] : Hs).map (·.1)) (fun v os' => ∃ (r : Int32), v = some (.int r) ∧ os' = [(b, .inr (.int, [(.int u0), (.int u1), (.int u2)]))] ∧ ((u0 = z ∧ r = 0) ∨ (¬ u0 = z ∧ r = -1))) := by
  refine Pays.of (Ls := #[.val (.ref b), .val (.int 1), .val (.int z)]) (plainFor_of_name pn_3) (fun m => ef_m_exp1 m b z) ?_
  intro p e s m below meth c T0 A0
  refine A0.iloadN (q := 1) d_method_2_0 rfl rfl ?_
  refine A0.ifNo (q := 4) d_method_2_1 (by decide) rfl ?_
  refine A0.aloadN (q := 5) d_method_2_4 rfl rfl rfl ?_
  refine A0.iconst (q := 6) (v := 0) d_method_2_5 rfl rfl ?_
  refine A0.ldI (qn := 7) (i := 0) d_method_2_6 rfl (by decide) rfl rfl ?_
  refine A0.iloadN (q := 8) d_method_2_7 rfl rfl ?_
  by_cases hc8_1 : u0 = z
  · refine A0.icmpNo (q := 11) d_method_2_8 (teq hc8_1).2 rfl ?_
    refine A0.iconst (q := 12) (v := 0) d_method_2_11 rfl rfl ?_
    refine A0.retI d_method_2_12 (by decide) (by decide) ⟨(0 : Int32), rfl, rfl, ?_⟩
    clear hw A0
    (try simp only [true_and, and_true, false_and, and_false, true_or, or_true, false_or, or_false, not_true_eq_false, not_false_eq_true, Int32.lt_iff_toInt_lt, Int64.lt_iff_toInt_lt, Int32.le_iff_toInt_le, Int64.le_iff_toInt_le, ← Int32.toInt_inj, ← Int64.toInt_inj, Int32.toInt_add, Int32.toInt_sub, Int32.toInt_neg, Int64.toInt_add, Int64.toInt_sub, Int64.toInt_neg, Int64.toInt_mul, Int32.toInt_toInt64, bm32, bm64, l32_m1, l32_0, l32_1, l32_2, l32_3] at hc8_1 ⊢) <;> omega
  · refine A0.icmpYes (q := 13) d_method_2_8 (feq hc8_1).2 (by decide) (by decide) ?_
    refine A0.iloadN (q := 14) d_method_2_13 rfl rfl ?_
    refine A0.iconst (q := 15) (v := 1) d_method_2_14 rfl rfl ?_
    refine A0.icmpYes (q := 27) d_method_2_15 (by decide) (by decide) (by decide) ?_
    refine A0.iconst (q := 28) (v := -1) d_method_2_27 rfl rfl ?_
    refine A0.retI d_method_2_28 (by decide) (by decide) ⟨(-1 : Int32), rfl, rfl, ?_⟩
    clear hw A0
    (try simp only [true_and, and_true, false_and, and_false, true_or, or_true, false_or, or_false, not_true_eq_false, not_false_eq_true, Int32.lt_iff_toInt_lt, Int64.lt_iff_toInt_lt, Int32.le_iff_toInt_le, Int64.le_iff_toInt_le, ← Int32.toInt_inj, ← Int64.toInt_inj, Int32.toInt_add, Int32.toInt_sub, Int32.toInt_neg, Int64.toInt_add, Int64.toInt_sub, Int64.toInt_neg, Int64.toInt_mul, Int32.toInt_toInt64, bm32, bm64, l32_m1, l32_0, l32_1, l32_2, l32_3] at hc8_1 ⊢) <;> omega
theorem d_method_2_18 : decode method_2_code 18 = .ok (.aload_n 0, 1) := by decide +kernel
theorem d_method_2_19 : decode method_2_code 19 = .ok (.iconst 1, 1) := by decide +kernel
theorem d_method_2_20 : decode method_2_code 20 = .ok (.iaload, 1) := by decide +kernel
theorem d_method_2_21 : decode method_2_code 21 = .ok (.iload_n 2, 1) := by decide +kernel
theorem d_method_2_22 : decode method_2_code 22 = .ok (.if_icmp .ne 5, 3) := by decide +kernel
theorem d_method_2_25 : decode method_2_code 25 = .ok (.iconst 1, 1) := by decide +kernel
theorem d_method_2_26 : decode method_2_code 26 = .ok (.ireturn, 1) := by decide +kernel
theorem ef_m_exp2 (m : MethodId) (x0 : Addr) (x2 : Int32) : entryFrame m #[(.ref x0), (.int 2), (.int x2)] 3 = mkF m 0 #[.val (.ref x0), .val (.int 2), .val (.int x2)] [] := by first | (simp [entryFrame, mkF, argsToLocals, Value.category]; done) | rfl
set_option maxRecDepth 65536 in
set_option maxHeartbeats 40000000 in
theorem m_exp2 (l : Launch) (Z : State) (a0 : Array Value) (hw : ∀ d ∈ tables_1, d.before a0 Z = true) (b : Addr) (z : Int32) (u0 : Int32) (u1 : Int32) (u2 : Int32) :
    Pays l Z a0 (⟨"com/example/heirring/heirring/IndexedIntSetRemovePinLaw", "expPlace", "([III)I"⟩ : MethodName) method_2_code 3 (some .int) ({ frames := 0, cells := 0, slots := 0, locals := 0 } : Room) #[(.ref b), (.int 2), (.int z)] [(b, .inr (.int, [(.int u0), (.int u1), (.int u2)]))] (([(b, .inr (.int, [(.int u0), (.int u1), (.int u2)]))] : Hs).map (·.1)) (fun v os' => ∃ (r : Int32), v = some (.int r) ∧ os' = [(b, .inr (.int, [(.int u0), (.int u1), (.int u2)]))] ∧ ((u0 = z ∧ r = 0) ∨ (¬ u0 = z ∧ ((u1 = z ∧ r = 1) ∨ (¬ u1 = z ∧ r = -1))))) := by
  refine Pays.of (Ls := #[.val (.ref b), .val (.int 2), .val (.int z)]) (plainFor_of_name pn_3) (fun m => ef_m_exp2 m b z) ?_
  intro p e s m below meth c T0 A0
  refine A0.iloadN (q := 1) d_method_2_0 rfl rfl ?_
  refine A0.ifNo (q := 4) d_method_2_1 (by decide) rfl ?_
  refine A0.aloadN (q := 5) d_method_2_4 rfl rfl rfl ?_
  refine A0.iconst (q := 6) (v := 0) d_method_2_5 rfl rfl ?_
  refine A0.ldI (qn := 7) (i := 0) d_method_2_6 rfl (by decide) rfl rfl ?_
  refine A0.iloadN (q := 8) d_method_2_7 rfl rfl ?_
  by_cases hc8_1 : u0 = z
  · refine A0.icmpNo (q := 11) d_method_2_8 (teq hc8_1).2 rfl ?_
    refine A0.iconst (q := 12) (v := 0) d_method_2_11 rfl rfl ?_
    refine A0.retI d_method_2_12 (by decide) (by decide) ⟨(0 : Int32), rfl, rfl, ?_⟩
    clear hw A0
    (try simp only [true_and, and_true, false_and, and_false, true_or, or_true, false_or, or_false, not_true_eq_false, not_false_eq_true, Int32.lt_iff_toInt_lt, Int64.lt_iff_toInt_lt, Int32.le_iff_toInt_le, Int64.le_iff_toInt_le, ← Int32.toInt_inj, ← Int64.toInt_inj, Int32.toInt_add, Int32.toInt_sub, Int32.toInt_neg, Int64.toInt_add, Int64.toInt_sub, Int64.toInt_neg, Int64.toInt_mul, Int32.toInt_toInt64, bm32, bm64, l32_m1, l32_0, l32_1, l32_2, l32_3] at hc8_1 ⊢) <;> omega
  · refine A0.icmpYes (q := 13) d_method_2_8 (feq hc8_1).2 (by decide) (by decide) ?_
    refine A0.iloadN (q := 14) d_method_2_13 rfl rfl ?_
    refine A0.iconst (q := 15) (v := 1) d_method_2_14 rfl rfl ?_
    refine A0.icmpNo (q := 18) d_method_2_15 (by decide) rfl ?_
    refine A0.aloadN (q := 19) d_method_2_18 rfl rfl rfl ?_
    refine A0.iconst (q := 20) (v := 1) d_method_2_19 rfl rfl ?_
    refine A0.ldI (qn := 21) (i := 0) d_method_2_20 rfl (by decide) rfl rfl ?_
    refine A0.iloadN (q := 22) d_method_2_21 rfl rfl ?_
    by_cases hc22_2 : u1 = z
    · refine A0.icmpNo (q := 25) d_method_2_22 (teq hc22_2).2 rfl ?_
      refine A0.iconst (q := 26) (v := 1) d_method_2_25 rfl rfl ?_
      refine A0.retI d_method_2_26 (by decide) (by decide) ⟨(1 : Int32), rfl, rfl, ?_⟩
      clear hw A0
      (try simp only [true_and, and_true, false_and, and_false, true_or, or_true, false_or, or_false, not_true_eq_false, not_false_eq_true, Int32.lt_iff_toInt_lt, Int64.lt_iff_toInt_lt, Int32.le_iff_toInt_le, Int64.le_iff_toInt_le, ← Int32.toInt_inj, ← Int64.toInt_inj, Int32.toInt_add, Int32.toInt_sub, Int32.toInt_neg, Int64.toInt_add, Int64.toInt_sub, Int64.toInt_neg, Int64.toInt_mul, Int32.toInt_toInt64, bm32, bm64, l32_m1, l32_0, l32_1, l32_2, l32_3] at hc8_1 hc22_2 ⊢) <;> omega
    · refine A0.icmpYes (q := 27) d_method_2_22 (feq hc22_2).2 (by decide) (by decide) ?_
      refine A0.iconst (q := 28) (v := -1) d_method_2_27 rfl rfl ?_
      refine A0.retI d_method_2_28 (by decide) (by decide) ⟨(-1 : Int32), rfl, rfl, ?_⟩
      clear hw A0
      (try simp only [true_and, and_true, false_and, and_false, true_or, or_true, false_or, or_false, not_true_eq_false, not_false_eq_true, Int32.lt_iff_toInt_lt, Int64.lt_iff_toInt_lt, Int32.le_iff_toInt_le, Int64.le_iff_toInt_le, ← Int32.toInt_inj, ← Int64.toInt_inj, Int32.toInt_add, Int32.toInt_sub, Int32.toInt_neg, Int64.toInt_add, Int64.toInt_sub, Int64.toInt_neg, Int64.toInt_mul, Int32.toInt_toInt64, bm32, bm64, l32_m1, l32_0, l32_1, l32_2, l32_3] at hc8_1 hc22_2 ⊢) <;> omega
theorem pd_4 : parseMethodDescriptor "(I)V" = some ⟨[.int], none⟩ := by decide +kernel
theorem pd_5 : parseMethodDescriptor "()I" = some ⟨[], some .int⟩ := by decide +kernel
theorem pd_6 : parseMethodDescriptor "(I)I" = some ⟨[.int], some .int⟩ := by decide +kernel
theorem pd_7 : parseMethodDescriptor "([III)I" = some ⟨[(.array .int), .int, .int], some .int⟩ := by decide +kernel
theorem ef_m_law (m : MethodId) (x0 : Int32) (x1 : Int32) (x2 : Int32) (x3 : Int32) : entryFrame m #[(.int x0), (.int x1), (.int x2), (.int x3)] maxLocals = mkF m 0 #[.val (.int x0), .val (.int x1), .val (.int x2), .val (.int x3), .unset, .unset, .unset, .unset, .unset, .unset, .unset, .unset, .unset, .unset] [] := by first | (simp [entryFrame, mkF, argsToLocals, Value.category, maxLocals]; done) | rfl
set_option maxRecDepth 65536 in
set_option maxHeartbeats 40000000 in
theorem m_law (l : Launch) (Z : State) (a0 : Array Value) (hw : ∀ d ∈ tables_1, d.before a0 Z = true) (x0 : Int32) (x1 : Int32) (x2 : Int32) (x3 : Int32) :
    Pays l Z a0 x code maxLocals ret room_1 #[(.int x0), (.int x1), (.int x2), (.int x3)] [] (([] : Hs).map (·.1)) (fun v os' => v = some (.int 1) ∧ True) := by
  refine Pays.of (Ls := #[.val (.int x0), .val (.int x1), .val (.int x2), .val (.int x3), .unset, .unset, .unset, .unset, .unset, .unset, .unset, .unset, .unset, .unset]) (plainFor_of_name pn_3) (fun m => ef_m_law m x0 x1 x2 x3) ?_
  intro p e s m below meth c T0 A0
  refine A0.iloadN (q := 1) at_0 rfl rfl ?_
  refine A0.ldc (qn := 3) (v := 2147483647) (tw hw 0 rfl) at_1 rfl ?_
  refine A0.iand (q := 4) at_3 rfl ?_
  refine A0.iconst (q := 5) (v := 3) at_4 rfl rfl ?_
  refine A0.irem (qn := 6) at_5 (by decide) rfl ?_
  refine A0.iconst (q := 7) (v := 1) at_6 rfl rfl ?_
  refine A0.iadd (q := 8) at_7 rfl ?_
  refine A0.istore (q := 10) (l' := #[.val (.int x0), .val (.int x1), .val (.int x2), .val (.int x3), .val (.int (((x0 &&& (2147483647 : Int32)) % (3 : Int32)) + (1 : Int32))), .unset, .unset, .unset, .unset, .unset, .unset, .unset, .unset, .unset]) at_8 rfl rfl ?_
  refine A0.iloadN (q := 11) at_10 rfl rfl ?_
  refine A0.ldc (qn := 13) (v := 2147483647) (tw hw 0 rfl) at_11 rfl ?_
  refine A0.iand (q := 14) at_13 rfl ?_
  refine A0.iconst (q := 15) (v := 3) at_14 rfl rfl ?_
  refine A0.irem (qn := 16) at_15 (by decide) rfl ?_
  generalize hmm0 : ((x1 &&& (2147483647 : Int32)) % (3 : Int32)) = mm0
  refine A0.istore (q := 18) (l' := #[.val (.int x0), .val (.int x1), .val (.int x2), .val (.int x3), .val (.int (((x0 &&& (2147483647 : Int32)) % (3 : Int32)) + (1 : Int32))), .val (.int mm0), .unset, .unset, .unset, .unset, .unset, .unset, .unset, .unset]) at_16 rfl rfl ?_
  refine A0.iconst (q := 19) (v := 1) at_18 rfl rfl ?_
  refine A0.iloadN (q := 20) at_19 rfl rfl ?_
  refine A0.iconst (q := 21) (v := 1) at_20 rfl rfl ?_
  refine A0.iand (q := 22) at_21 rfl ?_
  refine A0.iadd (q := 23) at_22 rfl ?_
  refine A0.istore (q := 25) (l' := #[.val (.int x0), .val (.int x1), .val (.int x2), .val (.int x3), .val (.int (((x0 &&& (2147483647 : Int32)) % (3 : Int32)) + (1 : Int32))), .val (.int mm0), .val (.int ((1 : Int32) + (x2 &&& (1 : Int32)))), .unset, .unset, .unset, .unset, .unset, .unset, .unset]) at_23 rfl rfl ?_
  refine A0.iconst (q := 26) (v := 3) at_25 rfl rfl ?_
  refine A0.newP (qn := 28) (cap := 3) (tw hw 1 rfl) at_26 (by decide) (by decide) (by decide) (by decide) (by decide) rfl (fun T1 b3 A2 => ?_)
  have A4 := A2.cast (k2 := 1) (n2 := 3) (os2 := [(b3, .inr (.int, [(.int 0), (.int 0), (.int 0)]))]) rfl rfl rfl
  refine A4.astore (q := 30) (l' := #[.val (.int x0), .val (.int x1), .val (.int x2), .val (.int x3), .val (.int (((x0 &&& (2147483647 : Int32)) % (3 : Int32)) + (1 : Int32))), .val (.int mm0), .val (.int ((1 : Int32) + (x2 &&& (1 : Int32)))), .val (.ref b3), .unset, .unset, .unset, .unset, .unset, .unset]) at_28 rfl rfl rfl ?_
  refine A4.aload (q := 32) at_30 rfl rfl rfl ?_
  refine A4.iconst (q := 33) (v := 0) at_32 rfl rfl ?_
  refine A4.iload (q := 35) at_33 rfl rfl ?_
  refine A4.stI (qn := 36) (i := 0) at_35 rfl (by decide) (show (0 : Int32).toNatClampNeg < 3 from by decide) rfl rfl (fun T5 A6 => ?_)
  have A7 := A6.cast (k2 := 1) (n2 := 3) (os2 := [(b3, .inr (.int, [(.int mm0), (.int 0), (.int 0)]))]) rfl rfl rfl
  refine A7.aload (q := 38) at_36 rfl rfl rfl ?_
  refine A7.iconst (q := 39) (v := 1) at_38 rfl rfl ?_
  refine A7.iload (q := 41) at_39 rfl rfl ?_
  refine A7.iload (q := 43) at_41 rfl rfl ?_
  refine A7.iadd (q := 44) at_43 rfl ?_
  refine A7.iconst (q := 45) (v := 3) at_44 rfl rfl ?_
  refine A7.irem (qn := 46) at_45 (by decide) rfl ?_
  generalize hmm1 : ((mm0 + ((1 : Int32) + (x2 &&& (1 : Int32)))) % (3 : Int32)) = mm1
  refine A7.stI (qn := 47) (i := 0) at_46 rfl (by decide) (show (1 : Int32).toNatClampNeg < 3 from by decide) rfl rfl (fun T8 A9 => ?_)
  have A10 := A9.cast (k2 := 1) (n2 := 3) (os2 := [(b3, .inr (.int, [(.int mm0), (.int mm1), (.int 0)]))]) rfl rfl rfl
  refine A10.aload (q := 49) at_47 rfl rfl rfl ?_
  refine A10.iconst (q := 50) (v := 2) at_49 rfl rfl ?_
  refine A10.iload (q := 52) at_50 rfl rfl ?_
  refine A10.iconst (q := 53) (v := 2) at_52 rfl rfl ?_
  refine A10.iload (q := 55) at_53 rfl rfl ?_
  refine A10.imul (q := 56) at_55 rfl ?_
  refine A10.iadd (q := 57) at_56 rfl ?_
  refine A10.iconst (q := 58) (v := 3) at_57 rfl rfl ?_
  refine A10.irem (qn := 59) at_58 (by decide) rfl ?_
  generalize hmm2 : ((mm0 + ((2 : Int32) * ((1 : Int32) + (x2 &&& (1 : Int32))))) % (3 : Int32)) = mm2
  refine A10.stI (qn := 60) (i := 0) at_59 rfl (by decide) (show (2 : Int32).toNatClampNeg < 3 from by decide) rfl rfl (fun T11 A12 => ?_)
  have A13 := A12.cast (k2 := 1) (n2 := 3) (os2 := [(b3, .inr (.int, [(.int mm0), (.int mm1), (.int mm2)]))]) rfl rfl rfl
  have hperm : (mm0 = 0 ∧ mm1 = 1 ∧ mm2 = 2) ∨ (mm0 = 1 ∧ mm1 = 2 ∧ mm2 = 0) ∨ (mm0 = 2 ∧ mm1 = 0 ∧ mm2 = 1) ∨ (mm0 = 0 ∧ mm1 = 2 ∧ mm2 = 1) ∨ (mm0 = 1 ∧ mm1 = 0 ∧ mm2 = 2) ∨ (mm0 = 2 ∧ mm1 = 1 ∧ mm2 = 0) := by
    rcases own_r3 x1 with h | h | h <;> rcases own_a1 x2 with h' | h' <;> rw [h] at hmm0 <;> rw [h'] at hmm1 hmm2 <;> subst hmm0 <;> subst hmm1 <;> subst hmm2 <;> decide
  clear hmm0 hmm1 hmm2
  rcases own_r3 x0 with hk | hk | hk
  · rw [hk]
    show Wp _ _ _ _ _ _ _ _ _ _ T11 (mkF m 60 #[.val (.int x0), .val (.int x1), .val (.int x2), .val (.int x3), .val (.int 1), .val (.int mm0), .val (.int ((1 : Int32) + (x2 &&& (1 : Int32)))), .val (.ref b3), .unset, .unset, .unset, .unset, .unset, .unset] [])
    refine A13.newO (qn := 63) (C := "com/example/heirring/heirring/IndexedIntSet") (fs := [("com/example/heirring/heirring/IndexedIntSet", "members", "[I", .null), ("com/example/heirring/heirring/IndexedIntSet", "places", "[I", .null), ("com/example/heirring/heirring/IndexedIntSet", "size", "I", (.int 0))]) (tw hw 2 rfl) (tw hw 3 rfl) (tw hw 4 rfl) at_60 (by decide) (by decide) (by decide) (List.forall_mem_cons.mpr ⟨⟨Or.inr (tw hw 12 rfl), (.array .int), by decide, rfl⟩, (List.forall_mem_cons.mpr ⟨⟨Or.inr (tw hw 14 rfl), (.array .int), by decide, rfl⟩, (List.forall_mem_cons.mpr ⟨⟨Or.inl (tw hw 25 rfl), .int, by decide, rfl⟩, (List.forall_mem_nil _)⟩)⟩)⟩) rfl (fun T14 b16 A15 => ?_)
    have A17 := A15.cast (k2 := 2) (n2 := 6) (os2 := [(b3, .inr (.int, [(.int mm0), (.int mm1), (.int mm2)])), (b16, ob0 .null .null (.int 0))]) rfl rfl rfl
    refine A17.dup (q := 64) at_63 rfl rfl ?_
    refine A17.iconst (q := 65) (v := 3) at_64 rfl rfl ?_
    refine Here.callI (qn := 68) (os1 := [(b3, .inr (.int, [(.int mm0), (.int mm1), (.int mm2)]))]) (os2 := [(b16, ob0 .null .null (.int 0))]) (rest := [(.ref b16)]) (W := 1) (argsL := [(.int 3)]) (a := b16) A17 (m_ini l Z a0 hw b16) (Or.inr ⟨rfl, rfl⟩) rfl (tw hw 5 rfl) (tw hw 6 rfl) (tw hw 4 rfl) (tw hw 7 rfl) (by decide) at_65 rfl (lenOf pd_4 rfl) rfl (Nat.le_of_eq rfl) (by decide) (by decide) (by decide) (by decide) rfl (fun T18 v19 os20 A21 P22 => ?_)
    obtain ⟨b1_65, b2_65, rfl, rfl⟩ := P22
    have A23 := A21.cast (k2 := 4) (n2 := 12) (os2 := [(b3, .inr (.int, [(.int mm0), (.int mm1), (.int mm2)])), (b16, ob0 (.ref b1_65) (.ref b2_65) (.int 0)), (b1_65, .inr (.int, [(.int 0), (.int 0), (.int 0)])), (b2_65, .inr (.int, [(.int (-1)), (.int (-1)), (.int (-1))]))]) rfl rfl rfl
    refine A23.astore (q := 70) (l' := #[.val (.int x0), .val (.int x1), .val (.int x2), .val (.int x3), .val (.int 1), .val (.int mm0), .val (.int ((1 : Int32) + (x2 &&& (1 : Int32)))), .val (.ref b3), .val (.ref b16), .unset, .unset, .unset, .unset, .unset]) at_68 rfl rfl rfl ?_
    refine A23.aload (q := 72) at_70 rfl rfl rfl ?_
    refine A23.aload (q := 74) at_72 rfl rfl rfl ?_
    refine A23.iconst (q := 75) (v := 0) at_74 rfl rfl ?_
    refine A23.ldI (qn := 76) (i := 0) at_75 rfl (by decide) rfl rfl ?_
    refine Here.callV (qn := 79) (os1 := [(b3, .inr (.int, [(.int mm0), (.int mm1), (.int mm2)]))]) (os2 := [(b16, ob0 (.ref b1_65) (.ref b2_65) (.int 0)), (b1_65, .inr (.int, [(.int 0), (.int 0), (.int 0)])), (b2_65, .inr (.int, [(.int (-1)), (.int (-1)), (.int (-1))]))]) (rest := []) (W := 0) (argsL := [(.int mm0)]) (a := b16) (i := 1) A23 (m_add0 l Z a0 hw b16 b1_65 b2_65 mm0 ((0 : Int32)) ((0 : Int32)) ((0 : Int32)) ([(.int (-1)), (.int (-1)), (.int (-1))]) (by rcases hperm with ⟨rfl, rfl, rfl⟩ | ⟨rfl, rfl, rfl⟩ | ⟨rfl, rfl, rfl⟩ | ⟨rfl, rfl, rfl⟩ | ⟨rfl, rfl, rfl⟩ | ⟨rfl, rfl, rfl⟩ <;> decide) (by rcases hperm with ⟨rfl, rfl, rfl⟩ | ⟨rfl, rfl, rfl⟩ | ⟨rfl, rfl, rfl⟩ | ⟨rfl, rfl, rfl⟩ | ⟨rfl, rfl, rfl⟩ | ⟨rfl, rfl, rfl⟩ <;> decide)) (Or.inr ⟨rfl, rfl⟩) rfl (tw hw 19 rfl) (tw hw 20 rfl) (tw hw 22 rfl) (tw hw 21 rfl) (tw hw 4 rfl) (tw hw 23 rfl) (by decide) at_76 rfl (lenOf pd_4 rfl) rfl (Nat.le_of_eq rfl) (by decide) (by decide) (by decide) (by decide) rfl (fun T24 v25 os26 A27 P28 => ?_)
    obtain ⟨rfl, rfl⟩ := P28
    have A29 := A27.cast (k2 := 4) (n2 := 12) (os2 := [(b3, .inr (.int, [(.int mm0), (.int mm1), (.int mm2)])), (b16, ob0 (.ref b1_65) (.ref b2_65) (.int 1)), (b1_65, .inr (.int, [(.int mm0), (.int 0), (.int 0)])), (b2_65, .inr (.int, ([(.int (-1)), (.int (-1)), (.int (-1))].set mm0.toNatClampNeg (.int 0))))]) rfl rfl rfl
    refine A29.iload (q := 81) at_79 rfl rfl ?_
    refine A29.iconst (q := 82) (v := 2) at_81 rfl rfl ?_
    refine A29.icmpYes (q := 94) at_82 (by decide) (by decide) (by decide) ?_
    refine A29.iload (q := 96) at_94 rfl rfl ?_
    refine A29.iconst (q := 97) (v := 3) at_96 rfl rfl ?_
    refine A29.icmpYes (q := 109) at_97 (by decide) (by decide) (by decide) ?_
    refine A29.iloadN (q := 110) at_109 rfl rfl ?_
    refine A29.ldc (qn := 112) (v := 2147483647) (tw hw 0 rfl) at_110 rfl ?_
    refine A29.iand (q := 113) at_112 rfl ?_
    refine A29.iload (q := 115) at_113 rfl rfl ?_
    refine A29.irem (qn := 116) at_115 (by decide) rfl ?_
    rw [own_r1 x3]
    show Wp _ _ _ _ _ _ _ _ _ _ T24 (mkF m 116 #[.val (.int x0), .val (.int x1), .val (.int x2), .val (.int x3), .val (.int 1), .val (.int mm0), .val (.int ((1 : Int32) + (x2 &&& (1 : Int32)))), .val (.ref b3), .val (.ref b16), .unset, .unset, .unset, .unset, .unset] [(.int 0)])
    refine A29.istore (q := 118) (l' := #[.val (.int x0), .val (.int x1), .val (.int x2), .val (.int x3), .val (.int 1), .val (.int mm0), .val (.int ((1 : Int32) + (x2 &&& (1 : Int32)))), .val (.ref b3), .val (.ref b16), .val (.int 0), .unset, .unset, .unset, .unset]) at_116 rfl rfl ?_
    refine A29.aload (q := 120) at_118 rfl rfl rfl ?_
    refine A29.iload (q := 122) at_120 rfl rfl ?_
    refine A29.ldI (qn := 123) (i := 0) at_122 rfl (by decide) rfl rfl ?_
    refine A29.istore (q := 125) (l' := #[.val (.int x0), .val (.int x1), .val (.int x2), .val (.int x3), .val (.int 1), .val (.int mm0), .val (.int ((1 : Int32) + (x2 &&& (1 : Int32)))), .val (.ref b3), .val (.ref b16), .val (.int 0), .val (.int mm0), .unset, .unset, .unset]) at_123 rfl rfl ?_
    refine A29.aload (q := 127) at_125 rfl rfl rfl ?_
    refine A29.iload (q := 129) at_127 rfl rfl ?_
    refine Here.callV (qn := 132) (os1 := [(b3, .inr (.int, [(.int mm0), (.int mm1), (.int mm2)]))]) (os2 := [(b16, ob0 (.ref b1_65) (.ref b2_65) (.int 1)), (b1_65, .inr (.int, [(.int mm0), (.int 0), (.int 0)])), (b2_65, .inr (.int, ([(.int (-1)), (.int (-1)), (.int (-1))].set mm0.toNatClampNeg (.int 0))))]) (rest := []) (W := 0) (argsL := [(.int mm0)]) (a := b16) (i := 1) A29 (m_rem10 l Z a0 hw b16 b1_65 b2_65 mm0 mm0 ((0 : Int32)) ((0 : Int32)) (([(.int (-1)), (.int (-1)), (.int (-1))].set mm0.toNatClampNeg (.int 0))) (by rcases hperm with ⟨rfl, rfl, rfl⟩ | ⟨rfl, rfl, rfl⟩ | ⟨rfl, rfl, rfl⟩ | ⟨rfl, rfl, rfl⟩ | ⟨rfl, rfl, rfl⟩ | ⟨rfl, rfl, rfl⟩ <;> decide) (by rcases hperm with ⟨rfl, rfl, rfl⟩ | ⟨rfl, rfl, rfl⟩ | ⟨rfl, rfl, rfl⟩ | ⟨rfl, rfl, rfl⟩ | ⟨rfl, rfl, rfl⟩ | ⟨rfl, rfl, rfl⟩ <;> decide) (by rcases hperm with ⟨rfl, rfl, rfl⟩ | ⟨rfl, rfl, rfl⟩ | ⟨rfl, rfl, rfl⟩ | ⟨rfl, rfl, rfl⟩ | ⟨rfl, rfl, rfl⟩ | ⟨rfl, rfl, rfl⟩ <;> decide) (by rcases hperm with ⟨rfl, rfl, rfl⟩ | ⟨rfl, rfl, rfl⟩ | ⟨rfl, rfl, rfl⟩ | ⟨rfl, rfl, rfl⟩ | ⟨rfl, rfl, rfl⟩ | ⟨rfl, rfl, rfl⟩ <;> decide) (by rcases hperm with ⟨rfl, rfl, rfl⟩ | ⟨rfl, rfl, rfl⟩ | ⟨rfl, rfl, rfl⟩ | ⟨rfl, rfl, rfl⟩ | ⟨rfl, rfl, rfl⟩ | ⟨rfl, rfl, rfl⟩ <;> decide)) (Or.inr ⟨rfl, rfl⟩) rfl (tw hw 26 rfl) (tw hw 27 rfl) (tw hw 29 rfl) (tw hw 28 rfl) (tw hw 4 rfl) (tw hw 30 rfl) (by decide) at_129 rfl (lenOf pd_4 rfl) rfl (Nat.le_of_eq rfl) (by decide) (by decide) (by decide) (by decide) rfl (fun T30 v31 os32 A33 P34 => ?_)
    obtain ⟨rfl, rfl⟩ := P34
    have A35 := A33.cast (k2 := 4) (n2 := 12) (os2 := [(b3, .inr (.int, [(.int mm0), (.int mm1), (.int mm2)])), (b16, ob0 (.ref b1_65) (.ref b2_65) (.int 0)), (b1_65, .inr (.int, [(.int mm0), (.int 0), (.int 0)])), (b2_65, .inr (.int, ((([(.int (-1)), (.int (-1)), (.int (-1))].set mm0.toNatClampNeg (.int 0)).set mm0.toNatClampNeg (.int 0)).set mm0.toNatClampNeg (.int (-1)))))]) rfl rfl rfl
    refine A35.iconst (q := 133) (v := 3) at_132 rfl rfl ?_
    refine A35.newP (qn := 135) (cap := 3) (tw hw 1 rfl) at_133 (by decide) (by decide) (by decide) (by decide) (by decide) rfl (fun T36 b38 A37 => ?_)
    have A39 := A37.cast (k2 := 5) (n2 := 15) (os2 := [(b3, .inr (.int, [(.int mm0), (.int mm1), (.int mm2)])), (b16, ob0 (.ref b1_65) (.ref b2_65) (.int 0)), (b1_65, .inr (.int, [(.int mm0), (.int 0), (.int 0)])), (b2_65, .inr (.int, ((([(.int (-1)), (.int (-1)), (.int (-1))].set mm0.toNatClampNeg (.int 0)).set mm0.toNatClampNeg (.int 0)).set mm0.toNatClampNeg (.int (-1))))), (b38, .inr (.int, [(.int 0), (.int 0), (.int 0)]))]) rfl rfl rfl
    refine A39.astore (q := 137) (l' := #[.val (.int x0), .val (.int x1), .val (.int x2), .val (.int x3), .val (.int 1), .val (.int mm0), .val (.int ((1 : Int32) + (x2 &&& (1 : Int32)))), .val (.ref b3), .val (.ref b16), .val (.int 0), .val (.int mm0), .val (.ref b38), .unset, .unset]) at_135 rfl rfl rfl ?_
    refine A39.aload (q := 139) at_137 rfl rfl rfl ?_
    refine A39.iconst (q := 140) (v := 0) at_139 rfl rfl ?_
    refine A39.aload (q := 142) at_140 rfl rfl rfl ?_
    refine A39.iconst (q := 143) (v := 0) at_142 rfl rfl ?_
    refine A39.ldI (qn := 144) (i := 0) at_143 rfl (by decide) rfl rfl ?_
    refine A39.stI (qn := 145) (i := 4) at_144 rfl (by decide) (show (0 : Int32).toNatClampNeg < 3 from by decide) rfl rfl (fun T40 A41 => ?_)
    have A42 := A41.cast (k2 := 5) (n2 := 15) (os2 := [(b3, .inr (.int, [(.int mm0), (.int mm1), (.int mm2)])), (b16, ob0 (.ref b1_65) (.ref b2_65) (.int 0)), (b1_65, .inr (.int, [(.int mm0), (.int 0), (.int 0)])), (b2_65, .inr (.int, ((([(.int (-1)), (.int (-1)), (.int (-1))].set mm0.toNatClampNeg (.int 0)).set mm0.toNatClampNeg (.int 0)).set mm0.toNatClampNeg (.int (-1))))), (b38, .inr (.int, [(.int mm0), (.int 0), (.int 0)]))]) rfl rfl rfl
    refine A42.aload (q := 147) at_145 rfl rfl rfl ?_
    refine A42.iconst (q := 148) (v := 1) at_147 rfl rfl ?_
    refine A42.aload (q := 150) at_148 rfl rfl rfl ?_
    refine A42.iconst (q := 151) (v := 1) at_150 rfl rfl ?_
    refine A42.ldI (qn := 152) (i := 0) at_151 rfl (by decide) rfl rfl ?_
    refine A42.stI (qn := 153) (i := 4) at_152 rfl (by decide) (show (1 : Int32).toNatClampNeg < 3 from by decide) rfl rfl (fun T43 A44 => ?_)
    have A45 := A44.cast (k2 := 5) (n2 := 15) (os2 := [(b3, .inr (.int, [(.int mm0), (.int mm1), (.int mm2)])), (b16, ob0 (.ref b1_65) (.ref b2_65) (.int 0)), (b1_65, .inr (.int, [(.int mm0), (.int 0), (.int 0)])), (b2_65, .inr (.int, ((([(.int (-1)), (.int (-1)), (.int (-1))].set mm0.toNatClampNeg (.int 0)).set mm0.toNatClampNeg (.int 0)).set mm0.toNatClampNeg (.int (-1))))), (b38, .inr (.int, [(.int mm0), (.int mm1), (.int 0)]))]) rfl rfl rfl
    refine A45.aload (q := 155) at_153 rfl rfl rfl ?_
    refine A45.iconst (q := 156) (v := 2) at_155 rfl rfl ?_
    refine A45.aload (q := 158) at_156 rfl rfl rfl ?_
    refine A45.iconst (q := 159) (v := 2) at_158 rfl rfl ?_
    refine A45.ldI (qn := 160) (i := 0) at_159 rfl (by decide) rfl rfl ?_
    refine A45.stI (qn := 161) (i := 4) at_160 rfl (by decide) (show (2 : Int32).toNatClampNeg < 3 from by decide) rfl rfl (fun T46 A47 => ?_)
    have A48 := A47.cast (k2 := 5) (n2 := 15) (os2 := [(b3, .inr (.int, [(.int mm0), (.int mm1), (.int mm2)])), (b16, ob0 (.ref b1_65) (.ref b2_65) (.int 0)), (b1_65, .inr (.int, [(.int mm0), (.int 0), (.int 0)])), (b2_65, .inr (.int, ((([(.int (-1)), (.int (-1)), (.int (-1))].set mm0.toNatClampNeg (.int 0)).set mm0.toNatClampNeg (.int 0)).set mm0.toNatClampNeg (.int (-1))))), (b38, .inr (.int, [(.int mm0), (.int mm1), (.int mm2)]))]) rfl rfl rfl
    refine A48.iload (q := 163) at_161 rfl rfl ?_
    refine A48.iconst (q := 164) (v := 1) at_163 rfl rfl ?_
    refine A48.isub (q := 165) at_164 rfl ?_
    refine Wp.top (v' := (.int 0)) rfl ?_
    refine A48.istore (q := 167) (l' := #[.val (.int x0), .val (.int x1), .val (.int x2), .val (.int x3), .val (.int 1), .val (.int mm0), .val (.int ((1 : Int32) + (x2 &&& (1 : Int32)))), .val (.ref b3), .val (.ref b16), .val (.int 0), .val (.int mm0), .val (.ref b38), .val (.int 0), .unset]) at_165 rfl rfl ?_
    refine A48.aload (q := 169) at_167 rfl rfl rfl ?_
    refine A48.iload (q := 171) at_169 rfl rfl ?_
    refine A48.aload (q := 173) at_171 rfl rfl rfl ?_
    refine A48.iload (q := 175) at_173 rfl rfl ?_
    refine A48.ldI (qn := 176) (i := 0) at_175 rfl (by decide) rfl rfl ?_
    refine A48.stI (qn := 177) (i := 4) at_176 rfl (by decide) (show (0 : Int32).toNatClampNeg < 3 from by decide) rfl rfl (fun T49 A50 => ?_)
    have A51 := A50.cast (k2 := 5) (n2 := 15) (os2 := [(b3, .inr (.int, [(.int mm0), (.int mm1), (.int mm2)])), (b16, ob0 (.ref b1_65) (.ref b2_65) (.int 0)), (b1_65, .inr (.int, [(.int mm0), (.int 0), (.int 0)])), (b2_65, .inr (.int, ((([(.int (-1)), (.int (-1)), (.int (-1))].set mm0.toNatClampNeg (.int 0)).set mm0.toNatClampNeg (.int 0)).set mm0.toNatClampNeg (.int (-1))))), (b38, .inr (.int, [(.int mm0), (.int mm1), (.int mm2)]))]) rfl rfl rfl
    refine A51.aload (q := 179) at_177 rfl rfl rfl ?_
    have A52 := A51.pick (is := [0, 2, 3, 4, 1]) (os2 := [(b3, .inr (.int, [(.int mm0), (.int mm1), (.int mm2)])), (b1_65, .inr (.int, [(.int mm0), (.int 0), (.int 0)])), (b2_65, .inr (.int, ((([(.int (-1)), (.int (-1)), (.int (-1))].set mm0.toNatClampNeg (.int 0)).set mm0.toNatClampNeg (.int 0)).set mm0.toNatClampNeg (.int (-1))))), (b38, .inr (.int, [(.int mm0), (.int mm1), (.int mm2)])), (b16, ob0 (.ref b1_65) (.ref b2_65) (.int 0))]) (by decide) rfl
    refine Here.callV (qn := 182) (os1 := [(b3, .inr (.int, [(.int mm0), (.int mm1), (.int mm2)])), (b1_65, .inr (.int, [(.int mm0), (.int 0), (.int 0)])), (b2_65, .inr (.int, ((([(.int (-1)), (.int (-1)), (.int (-1))].set mm0.toNatClampNeg (.int 0)).set mm0.toNatClampNeg (.int 0)).set mm0.toNatClampNeg (.int (-1))))), (b38, .inr (.int, [(.int mm0), (.int mm1), (.int mm2)]))]) (os2 := [(b16, ob0 (.ref b1_65) (.ref b2_65) (.int 0))]) (rest := []) (W := 0) (argsL := []) (a := b16) (i := 4) A52 (m_size l Z a0 hw b16 b1_65 b2_65 ((0 : Int32))) (Or.inr ⟨rfl, rfl⟩) rfl (tw hw 31 rfl) (tw hw 32 rfl) (tw hw 34 rfl) (tw hw 33 rfl) (tw hw 4 rfl) (tw hw 35 rfl) (by decide) at_179 rfl (lenOf pd_5 rfl) rfl (Nat.le_of_eq rfl) (by decide) (by decide) (by decide) (by decide) rfl (fun T53 v54 os55 A56 P57 => ?_)
    obtain ⟨rfl, rfl⟩ := P57
    have A58 := A56.cast (k2 := 5) (n2 := 15) (os2 := [(b3, .inr (.int, [(.int mm0), (.int mm1), (.int mm2)])), (b1_65, .inr (.int, [(.int mm0), (.int 0), (.int 0)])), (b2_65, .inr (.int, ((([(.int (-1)), (.int (-1)), (.int (-1))].set mm0.toNatClampNeg (.int 0)).set mm0.toNatClampNeg (.int 0)).set mm0.toNatClampNeg (.int (-1))))), (b38, .inr (.int, [(.int mm0), (.int mm1), (.int mm2)])), (b16, ob0 (.ref b1_65) (.ref b2_65) (.int 0))]) rfl rfl rfl
    refine A58.iload (q := 184) at_182 rfl rfl ?_
    refine A58.icmpNo (q := 187) at_184 (by decide) rfl ?_
    refine A58.iconst (q := 188) (v := 1) at_187 rfl rfl ?_
    refine A58.goto (q := 192) at_188 (by decide) (by decide) ?_
    refine A58.istore (q := 194) (l' := #[.val (.int x0), .val (.int x1), .val (.int x2), .val (.int x3), .val (.int 1), .val (.int mm0), .val (.int ((1 : Int32) + (x2 &&& (1 : Int32)))), .val (.ref b3), .val (.ref b16), .val (.int 0), .val (.int mm0), .val (.ref b38), .val (.int 0), .val (.int 1)]) at_192 rfl rfl ?_
    refine A58.iload (q := 196) at_194 rfl rfl ?_
    refine A58.ifYes (q := 224) at_196 (by decide) (by decide) (by decide) ?_
    refine A58.iload (q := 226) at_224 rfl rfl ?_
    refine A58.iconst (q := 227) (v := 1) at_226 rfl rfl ?_
    refine A58.icmpYes (q := 255) at_227 (by decide) (by decide) (by decide) ?_
    refine A58.iload (q := 257) at_255 rfl rfl ?_
    refine A58.ifNo (q := 260) at_257 (by decide) rfl ?_
    refine A58.aload (q := 262) at_260 rfl rfl rfl ?_
    refine A58.iconst (q := 263) (v := 0) at_262 rfl rfl ?_
    have A59 := A58.pick (is := [0, 1, 3, 4, 2]) (os2 := [(b3, .inr (.int, [(.int mm0), (.int mm1), (.int mm2)])), (b1_65, .inr (.int, [(.int mm0), (.int 0), (.int 0)])), (b38, .inr (.int, [(.int mm0), (.int mm1), (.int mm2)])), (b16, ob0 (.ref b1_65) (.ref b2_65) (.int 0)), (b2_65, .inr (.int, ((([(.int (-1)), (.int (-1)), (.int (-1))].set mm0.toNatClampNeg (.int 0)).set mm0.toNatClampNeg (.int 0)).set mm0.toNatClampNeg (.int (-1)))))]) (by decide) rfl
    refine Here.callV (qn := 266) (os1 := [(b3, .inr (.int, [(.int mm0), (.int mm1), (.int mm2)])), (b1_65, .inr (.int, [(.int mm0), (.int 0), (.int 0)])), (b38, .inr (.int, [(.int mm0), (.int mm1), (.int mm2)]))]) (os2 := [(b16, ob0 (.ref b1_65) (.ref b2_65) (.int 0)), (b2_65, .inr (.int, ((([(.int (-1)), (.int (-1)), (.int (-1))].set mm0.toNatClampNeg (.int 0)).set mm0.toNatClampNeg (.int 0)).set mm0.toNatClampNeg (.int (-1)))))]) (rest := []) (W := 0) (argsL := [(.int 0)]) (a := b16) (i := 3) A59 (m_place0 l Z a0 hw b16 b1_65 b2_65 ((0 : Int32)) (((([(.int (-1)), (.int (-1)), (.int (-1))].set mm0.toNatClampNeg (.int 0)).set mm0.toNatClampNeg (.int 0)).set mm0.toNatClampNeg (.int (-1)))) ((own_val (((([(.int (-1)), (.int (-1)), (.int (-1))].set mm0.toNatClampNeg (.int 0)).set mm0.toNatClampNeg (.int 0)).set mm0.toNatClampNeg (.int (-1)))[(0 : Int32).toNatClampNeg]?))) (by rcases hperm with ⟨rfl, rfl, rfl⟩ | ⟨rfl, rfl, rfl⟩ | ⟨rfl, rfl, rfl⟩ | ⟨rfl, rfl, rfl⟩ | ⟨rfl, rfl, rfl⟩ | ⟨rfl, rfl, rfl⟩ <;> decide)) (Or.inr ⟨rfl, rfl⟩) rfl (tw hw 36 rfl) (tw hw 37 rfl) (tw hw 39 rfl) (tw hw 38 rfl) (tw hw 4 rfl) (tw hw 40 rfl) (by decide) at_263 rfl (lenOf pd_6 rfl) rfl (Nat.le_of_eq rfl) (by decide) (by decide) (by decide) (by decide) rfl (fun T60 v61 os62 A63 P64 => ?_)
    obtain ⟨rfl, rfl⟩ := P64
    have A65 := A63.cast (k2 := 5) (n2 := 15) (os2 := [(b3, .inr (.int, [(.int mm0), (.int mm1), (.int mm2)])), (b1_65, .inr (.int, [(.int mm0), (.int 0), (.int 0)])), (b38, .inr (.int, [(.int mm0), (.int mm1), (.int mm2)])), (b16, ob0 (.ref b1_65) (.ref b2_65) (.int 0)), (b2_65, .inr (.int, ((([(.int (-1)), (.int (-1)), (.int (-1))].set mm0.toNatClampNeg (.int 0)).set mm0.toNatClampNeg (.int 0)).set mm0.toNatClampNeg (.int (-1)))))]) rfl rfl rfl
    refine A65.aload (q := 268) at_266 rfl rfl rfl ?_
    refine A65.iload (q := 270) at_268 rfl rfl ?_
    refine A65.iconst (q := 271) (v := 0) at_270 rfl rfl ?_
    have A66 := A65.pick (is := [0, 1, 3, 4, 2]) (os2 := [(b3, .inr (.int, [(.int mm0), (.int mm1), (.int mm2)])), (b1_65, .inr (.int, [(.int mm0), (.int 0), (.int 0)])), (b16, ob0 (.ref b1_65) (.ref b2_65) (.int 0)), (b2_65, .inr (.int, ((([(.int (-1)), (.int (-1)), (.int (-1))].set mm0.toNatClampNeg (.int 0)).set mm0.toNatClampNeg (.int 0)).set mm0.toNatClampNeg (.int (-1))))), (b38, .inr (.int, [(.int mm0), (.int mm1), (.int mm2)]))]) (by decide) rfl
    refine Here.callS (qn := 274) (os1 := [(b3, .inr (.int, [(.int mm0), (.int mm1), (.int mm2)])), (b1_65, .inr (.int, [(.int mm0), (.int 0), (.int 0)])), (b16, ob0 (.ref b1_65) (.ref b2_65) (.int 0)), (b2_65, .inr (.int, ((([(.int (-1)), (.int (-1)), (.int (-1))].set mm0.toNatClampNeg (.int 0)).set mm0.toNatClampNeg (.int 0)).set mm0.toNatClampNeg (.int (-1)))))]) (os2 := [(b38, .inr (.int, [(.int mm0), (.int mm1), (.int mm2)]))]) (rest := [(.int (own_val (((([(.int (-1)), (.int (-1)), (.int (-1))].set mm0.toNatClampNeg (.int 0)).set mm0.toNatClampNeg (.int 0)).set mm0.toNatClampNeg (.int (-1)))[(0 : Int32).toNatClampNeg]?)))]) (W := 1) (argsL := [(.ref b38), (.int 0), (.int 0)]) A66 (m_exp0 l Z a0 hw b38 ((0 : Int32)) mm0 mm1 mm2) (Or.inr ⟨rfl, rfl⟩) (tw hw 41 rfl) (tw hw 42 rfl) (tw hw 43 rfl) (tw hw 44 rfl) (by decide) at_271 rfl (lenOf pd_7 rfl) rfl (Nat.le_of_eq rfl) (by decide) (by decide) (by decide) (by decide) rfl (fun T67 v68 os69 A70 P71 => ?_)
    obtain ⟨r_271, rfl, rfl, hq_271⟩ := P71
    have A72 := A70.cast (k2 := 5) (n2 := 15) (os2 := [(b3, .inr (.int, [(.int mm0), (.int mm1), (.int mm2)])), (b1_65, .inr (.int, [(.int mm0), (.int 0), (.int 0)])), (b16, ob0 (.ref b1_65) (.ref b2_65) (.int 0)), (b2_65, .inr (.int, ((([(.int (-1)), (.int (-1)), (.int (-1))].set mm0.toNatClampNeg (.int 0)).set mm0.toNatClampNeg (.int 0)).set mm0.toNatClampNeg (.int (-1))))), (b38, .inr (.int, [(.int mm0), (.int mm1), (.int mm2)]))]) rfl rfl rfl
    have hc274_73 : (own_val (((([(.int (-1)), (.int (-1)), (.int (-1))].set mm0.toNatClampNeg (.int 0)).set mm0.toNatClampNeg (.int 0)).set mm0.toNatClampNeg (.int (-1)))[(0 : Int32).toNatClampNeg]?)) = r_271 := by
      clear hw A0 A2 A4 A6 A7 A9 A10 A12 A13 A15 A17 A21 A23 A27 A29 A33 A35 A37 A39 A41 A42 A44 A45 A47 A48 A50 A51 A52 A56 A58 A59 A63 A65 A66 A70 A72
      rcases hperm with ⟨rfl, rfl, rfl⟩ | ⟨rfl, rfl, rfl⟩ | ⟨rfl, rfl, rfl⟩ | ⟨rfl, rfl, rfl⟩ | ⟨rfl, rfl, rfl⟩ | ⟨rfl, rfl, rfl⟩ <;> (subst hq_271; decide)
    refine A72.icmpNo (q := 277) at_274 (teq hc274_73).2 rfl ?_
    refine A72.iconst (q := 278) (v := 1) at_277 rfl rfl ?_
    refine A72.goto (q := 282) at_278 (by decide) (by decide) ?_
    refine A72.istore (q := 284) (l' := #[.val (.int x0), .val (.int x1), .val (.int x2), .val (.int x3), .val (.int 1), .val (.int mm0), .val (.int ((1 : Int32) + (x2 &&& (1 : Int32)))), .val (.ref b3), .val (.ref b16), .val (.int 0), .val (.int mm0), .val (.ref b38), .val (.int 0), .val (.int 1)]) at_282 rfl rfl ?_
    refine A72.iload (q := 286) at_284 rfl rfl ?_
    refine A72.ifNo (q := 289) at_286 (by decide) rfl ?_
    refine A72.aload (q := 291) at_289 rfl rfl rfl ?_
    refine A72.iconst (q := 292) (v := 1) at_291 rfl rfl ?_
    have A74 := A72.pick (is := [0, 1, 4, 2, 3]) (os2 := [(b3, .inr (.int, [(.int mm0), (.int mm1), (.int mm2)])), (b1_65, .inr (.int, [(.int mm0), (.int 0), (.int 0)])), (b38, .inr (.int, [(.int mm0), (.int mm1), (.int mm2)])), (b16, ob0 (.ref b1_65) (.ref b2_65) (.int 0)), (b2_65, .inr (.int, ((([(.int (-1)), (.int (-1)), (.int (-1))].set mm0.toNatClampNeg (.int 0)).set mm0.toNatClampNeg (.int 0)).set mm0.toNatClampNeg (.int (-1)))))]) (by decide) rfl
    refine Here.callV (qn := 295) (os1 := [(b3, .inr (.int, [(.int mm0), (.int mm1), (.int mm2)])), (b1_65, .inr (.int, [(.int mm0), (.int 0), (.int 0)])), (b38, .inr (.int, [(.int mm0), (.int mm1), (.int mm2)]))]) (os2 := [(b16, ob0 (.ref b1_65) (.ref b2_65) (.int 0)), (b2_65, .inr (.int, ((([(.int (-1)), (.int (-1)), (.int (-1))].set mm0.toNatClampNeg (.int 0)).set mm0.toNatClampNeg (.int 0)).set mm0.toNatClampNeg (.int (-1)))))]) (rest := []) (W := 0) (argsL := [(.int 1)]) (a := b16) (i := 3) A74 (m_place1 l Z a0 hw b16 b1_65 b2_65 ((0 : Int32)) (((([(.int (-1)), (.int (-1)), (.int (-1))].set mm0.toNatClampNeg (.int 0)).set mm0.toNatClampNeg (.int 0)).set mm0.toNatClampNeg (.int (-1)))) ((own_val (((([(.int (-1)), (.int (-1)), (.int (-1))].set mm0.toNatClampNeg (.int 0)).set mm0.toNatClampNeg (.int 0)).set mm0.toNatClampNeg (.int (-1)))[(1 : Int32).toNatClampNeg]?))) (by rcases hperm with ⟨rfl, rfl, rfl⟩ | ⟨rfl, rfl, rfl⟩ | ⟨rfl, rfl, rfl⟩ | ⟨rfl, rfl, rfl⟩ | ⟨rfl, rfl, rfl⟩ | ⟨rfl, rfl, rfl⟩ <;> decide)) (Or.inr ⟨rfl, rfl⟩) rfl (tw hw 36 rfl) (tw hw 37 rfl) (tw hw 39 rfl) (tw hw 38 rfl) (tw hw 4 rfl) (tw hw 40 rfl) (by decide) at_292 rfl (lenOf pd_6 rfl) rfl (Nat.le_of_eq rfl) (by decide) (by decide) (by decide) (by decide) rfl (fun T75 v76 os77 A78 P79 => ?_)
    obtain ⟨rfl, rfl⟩ := P79
    have A80 := A78.cast (k2 := 5) (n2 := 15) (os2 := [(b3, .inr (.int, [(.int mm0), (.int mm1), (.int mm2)])), (b1_65, .inr (.int, [(.int mm0), (.int 0), (.int 0)])), (b38, .inr (.int, [(.int mm0), (.int mm1), (.int mm2)])), (b16, ob0 (.ref b1_65) (.ref b2_65) (.int 0)), (b2_65, .inr (.int, ((([(.int (-1)), (.int (-1)), (.int (-1))].set mm0.toNatClampNeg (.int 0)).set mm0.toNatClampNeg (.int 0)).set mm0.toNatClampNeg (.int (-1)))))]) rfl rfl rfl
    refine A80.aload (q := 297) at_295 rfl rfl rfl ?_
    refine A80.iload (q := 299) at_297 rfl rfl ?_
    refine A80.iconst (q := 300) (v := 1) at_299 rfl rfl ?_
    have A81 := A80.pick (is := [0, 1, 3, 4, 2]) (os2 := [(b3, .inr (.int, [(.int mm0), (.int mm1), (.int mm2)])), (b1_65, .inr (.int, [(.int mm0), (.int 0), (.int 0)])), (b16, ob0 (.ref b1_65) (.ref b2_65) (.int 0)), (b2_65, .inr (.int, ((([(.int (-1)), (.int (-1)), (.int (-1))].set mm0.toNatClampNeg (.int 0)).set mm0.toNatClampNeg (.int 0)).set mm0.toNatClampNeg (.int (-1))))), (b38, .inr (.int, [(.int mm0), (.int mm1), (.int mm2)]))]) (by decide) rfl
    refine Here.callS (qn := 303) (os1 := [(b3, .inr (.int, [(.int mm0), (.int mm1), (.int mm2)])), (b1_65, .inr (.int, [(.int mm0), (.int 0), (.int 0)])), (b16, ob0 (.ref b1_65) (.ref b2_65) (.int 0)), (b2_65, .inr (.int, ((([(.int (-1)), (.int (-1)), (.int (-1))].set mm0.toNatClampNeg (.int 0)).set mm0.toNatClampNeg (.int 0)).set mm0.toNatClampNeg (.int (-1)))))]) (os2 := [(b38, .inr (.int, [(.int mm0), (.int mm1), (.int mm2)]))]) (rest := [(.int (own_val (((([(.int (-1)), (.int (-1)), (.int (-1))].set mm0.toNatClampNeg (.int 0)).set mm0.toNatClampNeg (.int 0)).set mm0.toNatClampNeg (.int (-1)))[(1 : Int32).toNatClampNeg]?)))]) (W := 1) (argsL := [(.ref b38), (.int 0), (.int 1)]) A81 (m_exp0 l Z a0 hw b38 ((1 : Int32)) mm0 mm1 mm2) (Or.inr ⟨rfl, rfl⟩) (tw hw 41 rfl) (tw hw 42 rfl) (tw hw 43 rfl) (tw hw 44 rfl) (by decide) at_300 rfl (lenOf pd_7 rfl) rfl (Nat.le_of_eq rfl) (by decide) (by decide) (by decide) (by decide) rfl (fun T82 v83 os84 A85 P86 => ?_)
    obtain ⟨r_300, rfl, rfl, hq_300⟩ := P86
    have A87 := A85.cast (k2 := 5) (n2 := 15) (os2 := [(b3, .inr (.int, [(.int mm0), (.int mm1), (.int mm2)])), (b1_65, .inr (.int, [(.int mm0), (.int 0), (.int 0)])), (b16, ob0 (.ref b1_65) (.ref b2_65) (.int 0)), (b2_65, .inr (.int, ((([(.int (-1)), (.int (-1)), (.int (-1))].set mm0.toNatClampNeg (.int 0)).set mm0.toNatClampNeg (.int 0)).set mm0.toNatClampNeg (.int (-1))))), (b38, .inr (.int, [(.int mm0), (.int mm1), (.int mm2)]))]) rfl rfl rfl
    have hc303_88 : (own_val (((([(.int (-1)), (.int (-1)), (.int (-1))].set mm0.toNatClampNeg (.int 0)).set mm0.toNatClampNeg (.int 0)).set mm0.toNatClampNeg (.int (-1)))[(1 : Int32).toNatClampNeg]?)) = r_300 := by
      clear hw A0 A2 A4 A6 A7 A9 A10 A12 A13 A15 A17 A21 A23 A27 A29 A33 A35 A37 A39 A41 A42 A44 A45 A47 A48 A50 A51 A52 A56 A58 A59 A63 A65 A66 A70 A72 A74 A78 A80 A81 A85 A87
      rcases hperm with ⟨rfl, rfl, rfl⟩ | ⟨rfl, rfl, rfl⟩ | ⟨rfl, rfl, rfl⟩ | ⟨rfl, rfl, rfl⟩ | ⟨rfl, rfl, rfl⟩ | ⟨rfl, rfl, rfl⟩ <;> (subst hq_300; decide)
    refine A87.icmpNo (q := 306) at_303 (teq hc303_88).2 rfl ?_
    refine A87.iconst (q := 307) (v := 1) at_306 rfl rfl ?_
    refine A87.goto (q := 311) at_307 (by decide) (by decide) ?_
    refine A87.istore (q := 313) (l' := #[.val (.int x0), .val (.int x1), .val (.int x2), .val (.int x3), .val (.int 1), .val (.int mm0), .val (.int ((1 : Int32) + (x2 &&& (1 : Int32)))), .val (.ref b3), .val (.ref b16), .val (.int 0), .val (.int mm0), .val (.ref b38), .val (.int 0), .val (.int 1)]) at_311 rfl rfl ?_
    refine A87.iload (q := 315) at_313 rfl rfl ?_
    refine A87.ifNo (q := 318) at_315 (by decide) rfl ?_
    refine A87.aload (q := 320) at_318 rfl rfl rfl ?_
    refine A87.iconst (q := 321) (v := 2) at_320 rfl rfl ?_
    have A89 := A87.pick (is := [0, 1, 4, 2, 3]) (os2 := [(b3, .inr (.int, [(.int mm0), (.int mm1), (.int mm2)])), (b1_65, .inr (.int, [(.int mm0), (.int 0), (.int 0)])), (b38, .inr (.int, [(.int mm0), (.int mm1), (.int mm2)])), (b16, ob0 (.ref b1_65) (.ref b2_65) (.int 0)), (b2_65, .inr (.int, ((([(.int (-1)), (.int (-1)), (.int (-1))].set mm0.toNatClampNeg (.int 0)).set mm0.toNatClampNeg (.int 0)).set mm0.toNatClampNeg (.int (-1)))))]) (by decide) rfl
    refine Here.callV (qn := 324) (os1 := [(b3, .inr (.int, [(.int mm0), (.int mm1), (.int mm2)])), (b1_65, .inr (.int, [(.int mm0), (.int 0), (.int 0)])), (b38, .inr (.int, [(.int mm0), (.int mm1), (.int mm2)]))]) (os2 := [(b16, ob0 (.ref b1_65) (.ref b2_65) (.int 0)), (b2_65, .inr (.int, ((([(.int (-1)), (.int (-1)), (.int (-1))].set mm0.toNatClampNeg (.int 0)).set mm0.toNatClampNeg (.int 0)).set mm0.toNatClampNeg (.int (-1)))))]) (rest := []) (W := 0) (argsL := [(.int 2)]) (a := b16) (i := 3) A89 (m_place2 l Z a0 hw b16 b1_65 b2_65 ((0 : Int32)) (((([(.int (-1)), (.int (-1)), (.int (-1))].set mm0.toNatClampNeg (.int 0)).set mm0.toNatClampNeg (.int 0)).set mm0.toNatClampNeg (.int (-1)))) ((own_val (((([(.int (-1)), (.int (-1)), (.int (-1))].set mm0.toNatClampNeg (.int 0)).set mm0.toNatClampNeg (.int 0)).set mm0.toNatClampNeg (.int (-1)))[(2 : Int32).toNatClampNeg]?))) (by rcases hperm with ⟨rfl, rfl, rfl⟩ | ⟨rfl, rfl, rfl⟩ | ⟨rfl, rfl, rfl⟩ | ⟨rfl, rfl, rfl⟩ | ⟨rfl, rfl, rfl⟩ | ⟨rfl, rfl, rfl⟩ <;> decide)) (Or.inr ⟨rfl, rfl⟩) rfl (tw hw 36 rfl) (tw hw 37 rfl) (tw hw 39 rfl) (tw hw 38 rfl) (tw hw 4 rfl) (tw hw 40 rfl) (by decide) at_321 rfl (lenOf pd_6 rfl) rfl (Nat.le_of_eq rfl) (by decide) (by decide) (by decide) (by decide) rfl (fun T90 v91 os92 A93 P94 => ?_)
    obtain ⟨rfl, rfl⟩ := P94
    have A95 := A93.cast (k2 := 5) (n2 := 15) (os2 := [(b3, .inr (.int, [(.int mm0), (.int mm1), (.int mm2)])), (b1_65, .inr (.int, [(.int mm0), (.int 0), (.int 0)])), (b38, .inr (.int, [(.int mm0), (.int mm1), (.int mm2)])), (b16, ob0 (.ref b1_65) (.ref b2_65) (.int 0)), (b2_65, .inr (.int, ((([(.int (-1)), (.int (-1)), (.int (-1))].set mm0.toNatClampNeg (.int 0)).set mm0.toNatClampNeg (.int 0)).set mm0.toNatClampNeg (.int (-1)))))]) rfl rfl rfl
    refine A95.aload (q := 326) at_324 rfl rfl rfl ?_
    refine A95.iload (q := 328) at_326 rfl rfl ?_
    refine A95.iconst (q := 329) (v := 2) at_328 rfl rfl ?_
    have A96 := A95.pick (is := [0, 1, 3, 4, 2]) (os2 := [(b3, .inr (.int, [(.int mm0), (.int mm1), (.int mm2)])), (b1_65, .inr (.int, [(.int mm0), (.int 0), (.int 0)])), (b16, ob0 (.ref b1_65) (.ref b2_65) (.int 0)), (b2_65, .inr (.int, ((([(.int (-1)), (.int (-1)), (.int (-1))].set mm0.toNatClampNeg (.int 0)).set mm0.toNatClampNeg (.int 0)).set mm0.toNatClampNeg (.int (-1))))), (b38, .inr (.int, [(.int mm0), (.int mm1), (.int mm2)]))]) (by decide) rfl
    refine Here.callS (qn := 332) (os1 := [(b3, .inr (.int, [(.int mm0), (.int mm1), (.int mm2)])), (b1_65, .inr (.int, [(.int mm0), (.int 0), (.int 0)])), (b16, ob0 (.ref b1_65) (.ref b2_65) (.int 0)), (b2_65, .inr (.int, ((([(.int (-1)), (.int (-1)), (.int (-1))].set mm0.toNatClampNeg (.int 0)).set mm0.toNatClampNeg (.int 0)).set mm0.toNatClampNeg (.int (-1)))))]) (os2 := [(b38, .inr (.int, [(.int mm0), (.int mm1), (.int mm2)]))]) (rest := [(.int (own_val (((([(.int (-1)), (.int (-1)), (.int (-1))].set mm0.toNatClampNeg (.int 0)).set mm0.toNatClampNeg (.int 0)).set mm0.toNatClampNeg (.int (-1)))[(2 : Int32).toNatClampNeg]?)))]) (W := 1) (argsL := [(.ref b38), (.int 0), (.int 2)]) A96 (m_exp0 l Z a0 hw b38 ((2 : Int32)) mm0 mm1 mm2) (Or.inr ⟨rfl, rfl⟩) (tw hw 41 rfl) (tw hw 42 rfl) (tw hw 43 rfl) (tw hw 44 rfl) (by decide) at_329 rfl (lenOf pd_7 rfl) rfl (Nat.le_of_eq rfl) (by decide) (by decide) (by decide) (by decide) rfl (fun T97 v98 os99 A100 P101 => ?_)
    obtain ⟨r_329, rfl, rfl, hq_329⟩ := P101
    have A102 := A100.cast (k2 := 5) (n2 := 15) (os2 := [(b3, .inr (.int, [(.int mm0), (.int mm1), (.int mm2)])), (b1_65, .inr (.int, [(.int mm0), (.int 0), (.int 0)])), (b16, ob0 (.ref b1_65) (.ref b2_65) (.int 0)), (b2_65, .inr (.int, ((([(.int (-1)), (.int (-1)), (.int (-1))].set mm0.toNatClampNeg (.int 0)).set mm0.toNatClampNeg (.int 0)).set mm0.toNatClampNeg (.int (-1))))), (b38, .inr (.int, [(.int mm0), (.int mm1), (.int mm2)]))]) rfl rfl rfl
    have hc332_103 : (own_val (((([(.int (-1)), (.int (-1)), (.int (-1))].set mm0.toNatClampNeg (.int 0)).set mm0.toNatClampNeg (.int 0)).set mm0.toNatClampNeg (.int (-1)))[(2 : Int32).toNatClampNeg]?)) = r_329 := by
      clear hw A0 A2 A4 A6 A7 A9 A10 A12 A13 A15 A17 A21 A23 A27 A29 A33 A35 A37 A39 A41 A42 A44 A45 A47 A48 A50 A51 A52 A56 A58 A59 A63 A65 A66 A70 A72 A74 A78 A80 A81 A85 A87 A89 A93 A95 A96 A100 A102
      rcases hperm with ⟨rfl, rfl, rfl⟩ | ⟨rfl, rfl, rfl⟩ | ⟨rfl, rfl, rfl⟩ | ⟨rfl, rfl, rfl⟩ | ⟨rfl, rfl, rfl⟩ | ⟨rfl, rfl, rfl⟩ <;> (subst hq_329; decide)
    refine A102.icmpNo (q := 335) at_332 (teq hc332_103).2 rfl ?_
    refine A102.iconst (q := 336) (v := 1) at_335 rfl rfl ?_
    refine A102.goto (q := 340) at_336 (by decide) (by decide) ?_
    refine A102.istore (q := 342) (l' := #[.val (.int x0), .val (.int x1), .val (.int x2), .val (.int x3), .val (.int 1), .val (.int mm0), .val (.int ((1 : Int32) + (x2 &&& (1 : Int32)))), .val (.ref b3), .val (.ref b16), .val (.int 0), .val (.int mm0), .val (.ref b38), .val (.int 0), .val (.int 1)]) at_340 rfl rfl ?_
    refine A102.iload (q := 344) at_342 rfl rfl ?_
    exact A102.retN (by simp) at_344 (by decide) (by decide) ⟨rfl, trivial⟩
  · rw [hk]
    show Wp _ _ _ _ _ _ _ _ _ _ T11 (mkF m 60 #[.val (.int x0), .val (.int x1), .val (.int x2), .val (.int x3), .val (.int 2), .val (.int mm0), .val (.int ((1 : Int32) + (x2 &&& (1 : Int32)))), .val (.ref b3), .unset, .unset, .unset, .unset, .unset, .unset] [])
    refine A13.newO (qn := 63) (C := "com/example/heirring/heirring/IndexedIntSet") (fs := [("com/example/heirring/heirring/IndexedIntSet", "members", "[I", .null), ("com/example/heirring/heirring/IndexedIntSet", "places", "[I", .null), ("com/example/heirring/heirring/IndexedIntSet", "size", "I", (.int 0))]) (tw hw 2 rfl) (tw hw 3 rfl) (tw hw 4 rfl) at_60 (by decide) (by decide) (by decide) (List.forall_mem_cons.mpr ⟨⟨Or.inr (tw hw 12 rfl), (.array .int), by decide, rfl⟩, (List.forall_mem_cons.mpr ⟨⟨Or.inr (tw hw 14 rfl), (.array .int), by decide, rfl⟩, (List.forall_mem_cons.mpr ⟨⟨Or.inl (tw hw 25 rfl), .int, by decide, rfl⟩, (List.forall_mem_nil _)⟩)⟩)⟩) rfl (fun T104 b106 A105 => ?_)
    have A107 := A105.cast (k2 := 2) (n2 := 6) (os2 := [(b3, .inr (.int, [(.int mm0), (.int mm1), (.int mm2)])), (b106, ob0 .null .null (.int 0))]) rfl rfl rfl
    refine A107.dup (q := 64) at_63 rfl rfl ?_
    refine A107.iconst (q := 65) (v := 3) at_64 rfl rfl ?_
    refine Here.callI (qn := 68) (os1 := [(b3, .inr (.int, [(.int mm0), (.int mm1), (.int mm2)]))]) (os2 := [(b106, ob0 .null .null (.int 0))]) (rest := [(.ref b106)]) (W := 1) (argsL := [(.int 3)]) (a := b106) A107 (m_ini l Z a0 hw b106) (Or.inr ⟨rfl, rfl⟩) rfl (tw hw 5 rfl) (tw hw 6 rfl) (tw hw 4 rfl) (tw hw 7 rfl) (by decide) at_65 rfl (lenOf pd_4 rfl) rfl (Nat.le_of_eq rfl) (by decide) (by decide) (by decide) (by decide) rfl (fun T108 v109 os110 A111 P112 => ?_)
    obtain ⟨b1_65, b2_65, rfl, rfl⟩ := P112
    have A113 := A111.cast (k2 := 4) (n2 := 12) (os2 := [(b3, .inr (.int, [(.int mm0), (.int mm1), (.int mm2)])), (b106, ob0 (.ref b1_65) (.ref b2_65) (.int 0)), (b1_65, .inr (.int, [(.int 0), (.int 0), (.int 0)])), (b2_65, .inr (.int, [(.int (-1)), (.int (-1)), (.int (-1))]))]) rfl rfl rfl
    refine A113.astore (q := 70) (l' := #[.val (.int x0), .val (.int x1), .val (.int x2), .val (.int x3), .val (.int 2), .val (.int mm0), .val (.int ((1 : Int32) + (x2 &&& (1 : Int32)))), .val (.ref b3), .val (.ref b106), .unset, .unset, .unset, .unset, .unset]) at_68 rfl rfl rfl ?_
    refine A113.aload (q := 72) at_70 rfl rfl rfl ?_
    refine A113.aload (q := 74) at_72 rfl rfl rfl ?_
    refine A113.iconst (q := 75) (v := 0) at_74 rfl rfl ?_
    refine A113.ldI (qn := 76) (i := 0) at_75 rfl (by decide) rfl rfl ?_
    refine Here.callV (qn := 79) (os1 := [(b3, .inr (.int, [(.int mm0), (.int mm1), (.int mm2)]))]) (os2 := [(b106, ob0 (.ref b1_65) (.ref b2_65) (.int 0)), (b1_65, .inr (.int, [(.int 0), (.int 0), (.int 0)])), (b2_65, .inr (.int, [(.int (-1)), (.int (-1)), (.int (-1))]))]) (rest := []) (W := 0) (argsL := [(.int mm0)]) (a := b106) (i := 1) A113 (m_add0 l Z a0 hw b106 b1_65 b2_65 mm0 ((0 : Int32)) ((0 : Int32)) ((0 : Int32)) ([(.int (-1)), (.int (-1)), (.int (-1))]) (by rcases hperm with ⟨rfl, rfl, rfl⟩ | ⟨rfl, rfl, rfl⟩ | ⟨rfl, rfl, rfl⟩ | ⟨rfl, rfl, rfl⟩ | ⟨rfl, rfl, rfl⟩ | ⟨rfl, rfl, rfl⟩ <;> decide) (by rcases hperm with ⟨rfl, rfl, rfl⟩ | ⟨rfl, rfl, rfl⟩ | ⟨rfl, rfl, rfl⟩ | ⟨rfl, rfl, rfl⟩ | ⟨rfl, rfl, rfl⟩ | ⟨rfl, rfl, rfl⟩ <;> decide)) (Or.inr ⟨rfl, rfl⟩) rfl (tw hw 19 rfl) (tw hw 20 rfl) (tw hw 22 rfl) (tw hw 21 rfl) (tw hw 4 rfl) (tw hw 23 rfl) (by decide) at_76 rfl (lenOf pd_4 rfl) rfl (Nat.le_of_eq rfl) (by decide) (by decide) (by decide) (by decide) rfl (fun T114 v115 os116 A117 P118 => ?_)
    obtain ⟨rfl, rfl⟩ := P118
    have A119 := A117.cast (k2 := 4) (n2 := 12) (os2 := [(b3, .inr (.int, [(.int mm0), (.int mm1), (.int mm2)])), (b106, ob0 (.ref b1_65) (.ref b2_65) (.int 1)), (b1_65, .inr (.int, [(.int mm0), (.int 0), (.int 0)])), (b2_65, .inr (.int, ([(.int (-1)), (.int (-1)), (.int (-1))].set mm0.toNatClampNeg (.int 0))))]) rfl rfl rfl
    refine A119.iload (q := 81) at_79 rfl rfl ?_
    refine A119.iconst (q := 82) (v := 2) at_81 rfl rfl ?_
    refine A119.icmpNo (q := 85) at_82 (by decide) rfl ?_
    refine A119.aload (q := 87) at_85 rfl rfl rfl ?_
    refine A119.aload (q := 89) at_87 rfl rfl rfl ?_
    refine A119.iconst (q := 90) (v := 1) at_89 rfl rfl ?_
    refine A119.ldI (qn := 91) (i := 0) at_90 rfl (by decide) rfl rfl ?_
    refine Here.callV (qn := 94) (os1 := [(b3, .inr (.int, [(.int mm0), (.int mm1), (.int mm2)]))]) (os2 := [(b106, ob0 (.ref b1_65) (.ref b2_65) (.int 1)), (b1_65, .inr (.int, [(.int mm0), (.int 0), (.int 0)])), (b2_65, .inr (.int, ([(.int (-1)), (.int (-1)), (.int (-1))].set mm0.toNatClampNeg (.int 0))))]) (rest := []) (W := 0) (argsL := [(.int mm1)]) (a := b106) (i := 1) A119 (m_add1 l Z a0 hw b106 b1_65 b2_65 mm1 mm0 ((0 : Int32)) ((0 : Int32)) (([(.int (-1)), (.int (-1)), (.int (-1))].set mm0.toNatClampNeg (.int 0))) (by rcases hperm with ⟨rfl, rfl, rfl⟩ | ⟨rfl, rfl, rfl⟩ | ⟨rfl, rfl, rfl⟩ | ⟨rfl, rfl, rfl⟩ | ⟨rfl, rfl, rfl⟩ | ⟨rfl, rfl, rfl⟩ <;> decide) (by rcases hperm with ⟨rfl, rfl, rfl⟩ | ⟨rfl, rfl, rfl⟩ | ⟨rfl, rfl, rfl⟩ | ⟨rfl, rfl, rfl⟩ | ⟨rfl, rfl, rfl⟩ | ⟨rfl, rfl, rfl⟩ <;> decide)) (Or.inr ⟨rfl, rfl⟩) rfl (tw hw 19 rfl) (tw hw 20 rfl) (tw hw 22 rfl) (tw hw 21 rfl) (tw hw 4 rfl) (tw hw 23 rfl) (by decide) at_91 rfl (lenOf pd_4 rfl) rfl (Nat.le_of_eq rfl) (by decide) (by decide) (by decide) (by decide) rfl (fun T120 v121 os122 A123 P124 => ?_)
    obtain ⟨rfl, rfl⟩ := P124
    have A125 := A123.cast (k2 := 4) (n2 := 12) (os2 := [(b3, .inr (.int, [(.int mm0), (.int mm1), (.int mm2)])), (b106, ob0 (.ref b1_65) (.ref b2_65) (.int 2)), (b1_65, .inr (.int, [(.int mm0), (.int mm1), (.int 0)])), (b2_65, .inr (.int, (([(.int (-1)), (.int (-1)), (.int (-1))].set mm0.toNatClampNeg (.int 0)).set mm1.toNatClampNeg (.int 1))))]) rfl rfl rfl
    refine A125.iload (q := 96) at_94 rfl rfl ?_
    refine A125.iconst (q := 97) (v := 3) at_96 rfl rfl ?_
    refine A125.icmpYes (q := 109) at_97 (by decide) (by decide) (by decide) ?_
    refine A125.iloadN (q := 110) at_109 rfl rfl ?_
    refine A125.ldc (qn := 112) (v := 2147483647) (tw hw 0 rfl) at_110 rfl ?_
    refine A125.iand (q := 113) at_112 rfl ?_
    refine A125.iload (q := 115) at_113 rfl rfl ?_
    refine A125.irem (qn := 116) at_115 (by decide) rfl ?_
    rcases own_r2 x3 with ht | ht
    · rw [ht]
      show Wp _ _ _ _ _ _ _ _ _ _ T120 (mkF m 116 #[.val (.int x0), .val (.int x1), .val (.int x2), .val (.int x3), .val (.int 2), .val (.int mm0), .val (.int ((1 : Int32) + (x2 &&& (1 : Int32)))), .val (.ref b3), .val (.ref b106), .unset, .unset, .unset, .unset, .unset] [(.int 0)])
      refine A125.istore (q := 118) (l' := #[.val (.int x0), .val (.int x1), .val (.int x2), .val (.int x3), .val (.int 2), .val (.int mm0), .val (.int ((1 : Int32) + (x2 &&& (1 : Int32)))), .val (.ref b3), .val (.ref b106), .val (.int 0), .unset, .unset, .unset, .unset]) at_116 rfl rfl ?_
      refine A125.aload (q := 120) at_118 rfl rfl rfl ?_
      refine A125.iload (q := 122) at_120 rfl rfl ?_
      refine A125.ldI (qn := 123) (i := 0) at_122 rfl (by decide) rfl rfl ?_
      refine A125.istore (q := 125) (l' := #[.val (.int x0), .val (.int x1), .val (.int x2), .val (.int x3), .val (.int 2), .val (.int mm0), .val (.int ((1 : Int32) + (x2 &&& (1 : Int32)))), .val (.ref b3), .val (.ref b106), .val (.int 0), .val (.int mm0), .unset, .unset, .unset]) at_123 rfl rfl ?_
      refine A125.aload (q := 127) at_125 rfl rfl rfl ?_
      refine A125.iload (q := 129) at_127 rfl rfl ?_
      refine Here.callV (qn := 132) (os1 := [(b3, .inr (.int, [(.int mm0), (.int mm1), (.int mm2)]))]) (os2 := [(b106, ob0 (.ref b1_65) (.ref b2_65) (.int 2)), (b1_65, .inr (.int, [(.int mm0), (.int mm1), (.int 0)])), (b2_65, .inr (.int, (([(.int (-1)), (.int (-1)), (.int (-1))].set mm0.toNatClampNeg (.int 0)).set mm1.toNatClampNeg (.int 1))))]) (rest := []) (W := 0) (argsL := [(.int mm0)]) (a := b106) (i := 1) A125 (m_rem20 l Z a0 hw b106 b1_65 b2_65 mm0 mm0 mm1 ((0 : Int32)) ((([(.int (-1)), (.int (-1)), (.int (-1))].set mm0.toNatClampNeg (.int 0)).set mm1.toNatClampNeg (.int 1))) (by rcases hperm with ⟨rfl, rfl, rfl⟩ | ⟨rfl, rfl, rfl⟩ | ⟨rfl, rfl, rfl⟩ | ⟨rfl, rfl, rfl⟩ | ⟨rfl, rfl, rfl⟩ | ⟨rfl, rfl, rfl⟩ <;> decide) (by rcases hperm with ⟨rfl, rfl, rfl⟩ | ⟨rfl, rfl, rfl⟩ | ⟨rfl, rfl, rfl⟩ | ⟨rfl, rfl, rfl⟩ | ⟨rfl, rfl, rfl⟩ | ⟨rfl, rfl, rfl⟩ <;> decide) (by rcases hperm with ⟨rfl, rfl, rfl⟩ | ⟨rfl, rfl, rfl⟩ | ⟨rfl, rfl, rfl⟩ | ⟨rfl, rfl, rfl⟩ | ⟨rfl, rfl, rfl⟩ | ⟨rfl, rfl, rfl⟩ <;> decide) (by rcases hperm with ⟨rfl, rfl, rfl⟩ | ⟨rfl, rfl, rfl⟩ | ⟨rfl, rfl, rfl⟩ | ⟨rfl, rfl, rfl⟩ | ⟨rfl, rfl, rfl⟩ | ⟨rfl, rfl, rfl⟩ <;> decide) (by rcases hperm with ⟨rfl, rfl, rfl⟩ | ⟨rfl, rfl, rfl⟩ | ⟨rfl, rfl, rfl⟩ | ⟨rfl, rfl, rfl⟩ | ⟨rfl, rfl, rfl⟩ | ⟨rfl, rfl, rfl⟩ <;> decide)) (Or.inr ⟨rfl, rfl⟩) rfl (tw hw 26 rfl) (tw hw 27 rfl) (tw hw 29 rfl) (tw hw 28 rfl) (tw hw 4 rfl) (tw hw 30 rfl) (by decide) at_129 rfl (lenOf pd_4 rfl) rfl (Nat.le_of_eq rfl) (by decide) (by decide) (by decide) (by decide) rfl (fun T126 v127 os128 A129 P130 => ?_)
      obtain ⟨rfl, rfl⟩ := P130
      have A131 := A129.cast (k2 := 4) (n2 := 12) (os2 := [(b3, .inr (.int, [(.int mm0), (.int mm1), (.int mm2)])), (b106, ob0 (.ref b1_65) (.ref b2_65) (.int 1)), (b1_65, .inr (.int, [(.int mm1), (.int mm1), (.int 0)])), (b2_65, .inr (.int, (((([(.int (-1)), (.int (-1)), (.int (-1))].set mm0.toNatClampNeg (.int 0)).set mm1.toNatClampNeg (.int 1)).set mm1.toNatClampNeg (.int 0)).set mm0.toNatClampNeg (.int (-1)))))]) rfl rfl rfl
      refine A131.iconst (q := 133) (v := 3) at_132 rfl rfl ?_
      refine A131.newP (qn := 135) (cap := 3) (tw hw 1 rfl) at_133 (by decide) (by decide) (by decide) (by decide) (by decide) rfl (fun T132 b134 A133 => ?_)
      have A135 := A133.cast (k2 := 5) (n2 := 15) (os2 := [(b3, .inr (.int, [(.int mm0), (.int mm1), (.int mm2)])), (b106, ob0 (.ref b1_65) (.ref b2_65) (.int 1)), (b1_65, .inr (.int, [(.int mm1), (.int mm1), (.int 0)])), (b2_65, .inr (.int, (((([(.int (-1)), (.int (-1)), (.int (-1))].set mm0.toNatClampNeg (.int 0)).set mm1.toNatClampNeg (.int 1)).set mm1.toNatClampNeg (.int 0)).set mm0.toNatClampNeg (.int (-1))))), (b134, .inr (.int, [(.int 0), (.int 0), (.int 0)]))]) rfl rfl rfl
      refine A135.astore (q := 137) (l' := #[.val (.int x0), .val (.int x1), .val (.int x2), .val (.int x3), .val (.int 2), .val (.int mm0), .val (.int ((1 : Int32) + (x2 &&& (1 : Int32)))), .val (.ref b3), .val (.ref b106), .val (.int 0), .val (.int mm0), .val (.ref b134), .unset, .unset]) at_135 rfl rfl rfl ?_
      refine A135.aload (q := 139) at_137 rfl rfl rfl ?_
      refine A135.iconst (q := 140) (v := 0) at_139 rfl rfl ?_
      refine A135.aload (q := 142) at_140 rfl rfl rfl ?_
      refine A135.iconst (q := 143) (v := 0) at_142 rfl rfl ?_
      refine A135.ldI (qn := 144) (i := 0) at_143 rfl (by decide) rfl rfl ?_
      refine A135.stI (qn := 145) (i := 4) at_144 rfl (by decide) (show (0 : Int32).toNatClampNeg < 3 from by decide) rfl rfl (fun T136 A137 => ?_)
      have A138 := A137.cast (k2 := 5) (n2 := 15) (os2 := [(b3, .inr (.int, [(.int mm0), (.int mm1), (.int mm2)])), (b106, ob0 (.ref b1_65) (.ref b2_65) (.int 1)), (b1_65, .inr (.int, [(.int mm1), (.int mm1), (.int 0)])), (b2_65, .inr (.int, (((([(.int (-1)), (.int (-1)), (.int (-1))].set mm0.toNatClampNeg (.int 0)).set mm1.toNatClampNeg (.int 1)).set mm1.toNatClampNeg (.int 0)).set mm0.toNatClampNeg (.int (-1))))), (b134, .inr (.int, [(.int mm0), (.int 0), (.int 0)]))]) rfl rfl rfl
      refine A138.aload (q := 147) at_145 rfl rfl rfl ?_
      refine A138.iconst (q := 148) (v := 1) at_147 rfl rfl ?_
      refine A138.aload (q := 150) at_148 rfl rfl rfl ?_
      refine A138.iconst (q := 151) (v := 1) at_150 rfl rfl ?_
      refine A138.ldI (qn := 152) (i := 0) at_151 rfl (by decide) rfl rfl ?_
      refine A138.stI (qn := 153) (i := 4) at_152 rfl (by decide) (show (1 : Int32).toNatClampNeg < 3 from by decide) rfl rfl (fun T139 A140 => ?_)
      have A141 := A140.cast (k2 := 5) (n2 := 15) (os2 := [(b3, .inr (.int, [(.int mm0), (.int mm1), (.int mm2)])), (b106, ob0 (.ref b1_65) (.ref b2_65) (.int 1)), (b1_65, .inr (.int, [(.int mm1), (.int mm1), (.int 0)])), (b2_65, .inr (.int, (((([(.int (-1)), (.int (-1)), (.int (-1))].set mm0.toNatClampNeg (.int 0)).set mm1.toNatClampNeg (.int 1)).set mm1.toNatClampNeg (.int 0)).set mm0.toNatClampNeg (.int (-1))))), (b134, .inr (.int, [(.int mm0), (.int mm1), (.int 0)]))]) rfl rfl rfl
      refine A141.aload (q := 155) at_153 rfl rfl rfl ?_
      refine A141.iconst (q := 156) (v := 2) at_155 rfl rfl ?_
      refine A141.aload (q := 158) at_156 rfl rfl rfl ?_
      refine A141.iconst (q := 159) (v := 2) at_158 rfl rfl ?_
      refine A141.ldI (qn := 160) (i := 0) at_159 rfl (by decide) rfl rfl ?_
      refine A141.stI (qn := 161) (i := 4) at_160 rfl (by decide) (show (2 : Int32).toNatClampNeg < 3 from by decide) rfl rfl (fun T142 A143 => ?_)
      have A144 := A143.cast (k2 := 5) (n2 := 15) (os2 := [(b3, .inr (.int, [(.int mm0), (.int mm1), (.int mm2)])), (b106, ob0 (.ref b1_65) (.ref b2_65) (.int 1)), (b1_65, .inr (.int, [(.int mm1), (.int mm1), (.int 0)])), (b2_65, .inr (.int, (((([(.int (-1)), (.int (-1)), (.int (-1))].set mm0.toNatClampNeg (.int 0)).set mm1.toNatClampNeg (.int 1)).set mm1.toNatClampNeg (.int 0)).set mm0.toNatClampNeg (.int (-1))))), (b134, .inr (.int, [(.int mm0), (.int mm1), (.int mm2)]))]) rfl rfl rfl
      refine A144.iload (q := 163) at_161 rfl rfl ?_
      refine A144.iconst (q := 164) (v := 1) at_163 rfl rfl ?_
      refine A144.isub (q := 165) at_164 rfl ?_
      refine Wp.top (v' := (.int 1)) rfl ?_
      refine A144.istore (q := 167) (l' := #[.val (.int x0), .val (.int x1), .val (.int x2), .val (.int x3), .val (.int 2), .val (.int mm0), .val (.int ((1 : Int32) + (x2 &&& (1 : Int32)))), .val (.ref b3), .val (.ref b106), .val (.int 0), .val (.int mm0), .val (.ref b134), .val (.int 1), .unset]) at_165 rfl rfl ?_
      refine A144.aload (q := 169) at_167 rfl rfl rfl ?_
      refine A144.iload (q := 171) at_169 rfl rfl ?_
      refine A144.aload (q := 173) at_171 rfl rfl rfl ?_
      refine A144.iload (q := 175) at_173 rfl rfl ?_
      refine A144.ldI (qn := 176) (i := 0) at_175 rfl (by decide) rfl rfl ?_
      refine A144.stI (qn := 177) (i := 4) at_176 rfl (by decide) (show (0 : Int32).toNatClampNeg < 3 from by decide) rfl rfl (fun T145 A146 => ?_)
      have A147 := A146.cast (k2 := 5) (n2 := 15) (os2 := [(b3, .inr (.int, [(.int mm0), (.int mm1), (.int mm2)])), (b106, ob0 (.ref b1_65) (.ref b2_65) (.int 1)), (b1_65, .inr (.int, [(.int mm1), (.int mm1), (.int 0)])), (b2_65, .inr (.int, (((([(.int (-1)), (.int (-1)), (.int (-1))].set mm0.toNatClampNeg (.int 0)).set mm1.toNatClampNeg (.int 1)).set mm1.toNatClampNeg (.int 0)).set mm0.toNatClampNeg (.int (-1))))), (b134, .inr (.int, [(.int mm1), (.int mm1), (.int mm2)]))]) rfl rfl rfl
      refine A147.aload (q := 179) at_177 rfl rfl rfl ?_
      have A148 := A147.pick (is := [0, 2, 3, 4, 1]) (os2 := [(b3, .inr (.int, [(.int mm0), (.int mm1), (.int mm2)])), (b1_65, .inr (.int, [(.int mm1), (.int mm1), (.int 0)])), (b2_65, .inr (.int, (((([(.int (-1)), (.int (-1)), (.int (-1))].set mm0.toNatClampNeg (.int 0)).set mm1.toNatClampNeg (.int 1)).set mm1.toNatClampNeg (.int 0)).set mm0.toNatClampNeg (.int (-1))))), (b134, .inr (.int, [(.int mm1), (.int mm1), (.int mm2)])), (b106, ob0 (.ref b1_65) (.ref b2_65) (.int 1))]) (by decide) rfl
      refine Here.callV (qn := 182) (os1 := [(b3, .inr (.int, [(.int mm0), (.int mm1), (.int mm2)])), (b1_65, .inr (.int, [(.int mm1), (.int mm1), (.int 0)])), (b2_65, .inr (.int, (((([(.int (-1)), (.int (-1)), (.int (-1))].set mm0.toNatClampNeg (.int 0)).set mm1.toNatClampNeg (.int 1)).set mm1.toNatClampNeg (.int 0)).set mm0.toNatClampNeg (.int (-1))))), (b134, .inr (.int, [(.int mm1), (.int mm1), (.int mm2)]))]) (os2 := [(b106, ob0 (.ref b1_65) (.ref b2_65) (.int 1))]) (rest := []) (W := 0) (argsL := []) (a := b106) (i := 4) A148 (m_size l Z a0 hw b106 b1_65 b2_65 ((1 : Int32))) (Or.inr ⟨rfl, rfl⟩) rfl (tw hw 31 rfl) (tw hw 32 rfl) (tw hw 34 rfl) (tw hw 33 rfl) (tw hw 4 rfl) (tw hw 35 rfl) (by decide) at_179 rfl (lenOf pd_5 rfl) rfl (Nat.le_of_eq rfl) (by decide) (by decide) (by decide) (by decide) rfl (fun T149 v150 os151 A152 P153 => ?_)
      obtain ⟨rfl, rfl⟩ := P153
      have A154 := A152.cast (k2 := 5) (n2 := 15) (os2 := [(b3, .inr (.int, [(.int mm0), (.int mm1), (.int mm2)])), (b1_65, .inr (.int, [(.int mm1), (.int mm1), (.int 0)])), (b2_65, .inr (.int, (((([(.int (-1)), (.int (-1)), (.int (-1))].set mm0.toNatClampNeg (.int 0)).set mm1.toNatClampNeg (.int 1)).set mm1.toNatClampNeg (.int 0)).set mm0.toNatClampNeg (.int (-1))))), (b134, .inr (.int, [(.int mm1), (.int mm1), (.int mm2)])), (b106, ob0 (.ref b1_65) (.ref b2_65) (.int 1))]) rfl rfl rfl
      refine A154.iload (q := 184) at_182 rfl rfl ?_
      refine A154.icmpNo (q := 187) at_184 (by decide) rfl ?_
      refine A154.iconst (q := 188) (v := 1) at_187 rfl rfl ?_
      refine A154.goto (q := 192) at_188 (by decide) (by decide) ?_
      refine A154.istore (q := 194) (l' := #[.val (.int x0), .val (.int x1), .val (.int x2), .val (.int x3), .val (.int 2), .val (.int mm0), .val (.int ((1 : Int32) + (x2 &&& (1 : Int32)))), .val (.ref b3), .val (.ref b106), .val (.int 0), .val (.int mm0), .val (.ref b134), .val (.int 1), .val (.int 1)]) at_192 rfl rfl ?_
      refine A154.iload (q := 196) at_194 rfl rfl ?_
      refine A154.ifNo (q := 199) at_196 (by decide) rfl ?_
      refine A154.iload (q := 201) at_199 rfl rfl ?_
      refine A154.ifNo (q := 204) at_201 (by decide) rfl ?_
      refine A154.aload (q := 206) at_204 rfl rfl rfl ?_
      refine A154.iconst (q := 207) (v := 0) at_206 rfl rfl ?_
      have A155 := A154.pick (is := [0, 2, 3, 4, 1]) (os2 := [(b3, .inr (.int, [(.int mm0), (.int mm1), (.int mm2)])), (b2_65, .inr (.int, (((([(.int (-1)), (.int (-1)), (.int (-1))].set mm0.toNatClampNeg (.int 0)).set mm1.toNatClampNeg (.int 1)).set mm1.toNatClampNeg (.int 0)).set mm0.toNatClampNeg (.int (-1))))), (b134, .inr (.int, [(.int mm1), (.int mm1), (.int mm2)])), (b106, ob0 (.ref b1_65) (.ref b2_65) (.int 1)), (b1_65, .inr (.int, [(.int mm1), (.int mm1), (.int 0)]))]) (by decide) rfl
      refine Here.callV (qn := 210) (os1 := [(b3, .inr (.int, [(.int mm0), (.int mm1), (.int mm2)])), (b2_65, .inr (.int, (((([(.int (-1)), (.int (-1)), (.int (-1))].set mm0.toNatClampNeg (.int 0)).set mm1.toNatClampNeg (.int 1)).set mm1.toNatClampNeg (.int 0)).set mm0.toNatClampNeg (.int (-1))))), (b134, .inr (.int, [(.int mm1), (.int mm1), (.int mm2)]))]) (os2 := [(b106, ob0 (.ref b1_65) (.ref b2_65) (.int 1)), (b1_65, .inr (.int, [(.int mm1), (.int mm1), (.int 0)]))]) (rest := []) (W := 0) (argsL := [(.int 0)]) (a := b106) (i := 3) A155 (m_get0 l Z a0 hw b106 b1_65 b2_65 ((1 : Int32)) mm1 mm1 ((0 : Int32))) (Or.inr ⟨rfl, rfl⟩) rfl (tw hw 45 rfl) (tw hw 46 rfl) (tw hw 48 rfl) (tw hw 47 rfl) (tw hw 4 rfl) (tw hw 49 rfl) (by decide) at_207 rfl (lenOf pd_6 rfl) rfl (Nat.le_of_eq rfl) (by decide) (by decide) (by decide) (by decide) rfl (fun T156 v157 os158 A159 P160 => ?_)
      obtain ⟨rfl, rfl⟩ := P160
      have A161 := A159.cast (k2 := 5) (n2 := 15) (os2 := [(b3, .inr (.int, [(.int mm0), (.int mm1), (.int mm2)])), (b2_65, .inr (.int, (((([(.int (-1)), (.int (-1)), (.int (-1))].set mm0.toNatClampNeg (.int 0)).set mm1.toNatClampNeg (.int 1)).set mm1.toNatClampNeg (.int 0)).set mm0.toNatClampNeg (.int (-1))))), (b134, .inr (.int, [(.int mm1), (.int mm1), (.int mm2)])), (b106, ob0 (.ref b1_65) (.ref b2_65) (.int 1)), (b1_65, .inr (.int, [(.int mm1), (.int mm1), (.int 0)]))]) rfl rfl rfl
      refine A161.aload (q := 212) at_210 rfl rfl rfl ?_
      refine A161.iconst (q := 213) (v := 0) at_212 rfl rfl ?_
      refine A161.ldI (qn := 214) (i := 2) at_213 rfl (by decide) rfl rfl ?_
      have hc214_162 : mm1 = mm1 := by
        clear hw A0 A2 A4 A6 A7 A9 A10 A12 A13 A105 A107 A111 A113 A117 A119 A123 A125 A129 A131 A133 A135 A137 A138 A140 A141 A143 A144 A146 A147 A148 A152 A154 A155 A159 A161
        rfl
      refine A161.icmpNo (q := 217) at_214 (teq hc214_162).2 rfl ?_
      refine A161.iconst (q := 218) (v := 1) at_217 rfl rfl ?_
      refine A161.goto (q := 222) at_218 (by decide) (by decide) ?_
      refine A161.istore (q := 224) (l' := #[.val (.int x0), .val (.int x1), .val (.int x2), .val (.int x3), .val (.int 2), .val (.int mm0), .val (.int ((1 : Int32) + (x2 &&& (1 : Int32)))), .val (.ref b3), .val (.ref b106), .val (.int 0), .val (.int mm0), .val (.ref b134), .val (.int 1), .val (.int 1)]) at_222 rfl rfl ?_
      refine A161.iload (q := 226) at_224 rfl rfl ?_
      refine A161.iconst (q := 227) (v := 1) at_226 rfl rfl ?_
      refine A161.icmpYes (q := 255) at_227 (by decide) (by decide) (by decide) ?_
      refine A161.iload (q := 257) at_255 rfl rfl ?_
      refine A161.ifNo (q := 260) at_257 (by decide) rfl ?_
      refine A161.aload (q := 262) at_260 rfl rfl rfl ?_
      refine A161.iconst (q := 263) (v := 0) at_262 rfl rfl ?_
      have A163 := A161.pick (is := [0, 2, 4, 3, 1]) (os2 := [(b3, .inr (.int, [(.int mm0), (.int mm1), (.int mm2)])), (b134, .inr (.int, [(.int mm1), (.int mm1), (.int mm2)])), (b1_65, .inr (.int, [(.int mm1), (.int mm1), (.int 0)])), (b106, ob0 (.ref b1_65) (.ref b2_65) (.int 1)), (b2_65, .inr (.int, (((([(.int (-1)), (.int (-1)), (.int (-1))].set mm0.toNatClampNeg (.int 0)).set mm1.toNatClampNeg (.int 1)).set mm1.toNatClampNeg (.int 0)).set mm0.toNatClampNeg (.int (-1)))))]) (by decide) rfl
      refine Here.callV (qn := 266) (os1 := [(b3, .inr (.int, [(.int mm0), (.int mm1), (.int mm2)])), (b134, .inr (.int, [(.int mm1), (.int mm1), (.int mm2)])), (b1_65, .inr (.int, [(.int mm1), (.int mm1), (.int 0)]))]) (os2 := [(b106, ob0 (.ref b1_65) (.ref b2_65) (.int 1)), (b2_65, .inr (.int, (((([(.int (-1)), (.int (-1)), (.int (-1))].set mm0.toNatClampNeg (.int 0)).set mm1.toNatClampNeg (.int 1)).set mm1.toNatClampNeg (.int 0)).set mm0.toNatClampNeg (.int (-1)))))]) (rest := []) (W := 0) (argsL := [(.int 0)]) (a := b106) (i := 3) A163 (m_place0 l Z a0 hw b106 b1_65 b2_65 ((1 : Int32)) ((((([(.int (-1)), (.int (-1)), (.int (-1))].set mm0.toNatClampNeg (.int 0)).set mm1.toNatClampNeg (.int 1)).set mm1.toNatClampNeg (.int 0)).set mm0.toNatClampNeg (.int (-1)))) ((own_val ((((([(.int (-1)), (.int (-1)), (.int (-1))].set mm0.toNatClampNeg (.int 0)).set mm1.toNatClampNeg (.int 1)).set mm1.toNatClampNeg (.int 0)).set mm0.toNatClampNeg (.int (-1)))[(0 : Int32).toNatClampNeg]?))) (by rcases hperm with ⟨rfl, rfl, rfl⟩ | ⟨rfl, rfl, rfl⟩ | ⟨rfl, rfl, rfl⟩ | ⟨rfl, rfl, rfl⟩ | ⟨rfl, rfl, rfl⟩ | ⟨rfl, rfl, rfl⟩ <;> decide)) (Or.inr ⟨rfl, rfl⟩) rfl (tw hw 36 rfl) (tw hw 37 rfl) (tw hw 39 rfl) (tw hw 38 rfl) (tw hw 4 rfl) (tw hw 40 rfl) (by decide) at_263 rfl (lenOf pd_6 rfl) rfl (Nat.le_of_eq rfl) (by decide) (by decide) (by decide) (by decide) rfl (fun T164 v165 os166 A167 P168 => ?_)
      obtain ⟨rfl, rfl⟩ := P168
      have A169 := A167.cast (k2 := 5) (n2 := 15) (os2 := [(b3, .inr (.int, [(.int mm0), (.int mm1), (.int mm2)])), (b134, .inr (.int, [(.int mm1), (.int mm1), (.int mm2)])), (b1_65, .inr (.int, [(.int mm1), (.int mm1), (.int 0)])), (b106, ob0 (.ref b1_65) (.ref b2_65) (.int 1)), (b2_65, .inr (.int, (((([(.int (-1)), (.int (-1)), (.int (-1))].set mm0.toNatClampNeg (.int 0)).set mm1.toNatClampNeg (.int 1)).set mm1.toNatClampNeg (.int 0)).set mm0.toNatClampNeg (.int (-1)))))]) rfl rfl rfl
      refine A169.aload (q := 268) at_266 rfl rfl rfl ?_
      refine A169.iload (q := 270) at_268 rfl rfl ?_
      refine A169.iconst (q := 271) (v := 0) at_270 rfl rfl ?_
      have A170 := A169.pick (is := [0, 2, 3, 4, 1]) (os2 := [(b3, .inr (.int, [(.int mm0), (.int mm1), (.int mm2)])), (b1_65, .inr (.int, [(.int mm1), (.int mm1), (.int 0)])), (b106, ob0 (.ref b1_65) (.ref b2_65) (.int 1)), (b2_65, .inr (.int, (((([(.int (-1)), (.int (-1)), (.int (-1))].set mm0.toNatClampNeg (.int 0)).set mm1.toNatClampNeg (.int 1)).set mm1.toNatClampNeg (.int 0)).set mm0.toNatClampNeg (.int (-1))))), (b134, .inr (.int, [(.int mm1), (.int mm1), (.int mm2)]))]) (by decide) rfl
      refine Here.callS (qn := 274) (os1 := [(b3, .inr (.int, [(.int mm0), (.int mm1), (.int mm2)])), (b1_65, .inr (.int, [(.int mm1), (.int mm1), (.int 0)])), (b106, ob0 (.ref b1_65) (.ref b2_65) (.int 1)), (b2_65, .inr (.int, (((([(.int (-1)), (.int (-1)), (.int (-1))].set mm0.toNatClampNeg (.int 0)).set mm1.toNatClampNeg (.int 1)).set mm1.toNatClampNeg (.int 0)).set mm0.toNatClampNeg (.int (-1)))))]) (os2 := [(b134, .inr (.int, [(.int mm1), (.int mm1), (.int mm2)]))]) (rest := [(.int (own_val ((((([(.int (-1)), (.int (-1)), (.int (-1))].set mm0.toNatClampNeg (.int 0)).set mm1.toNatClampNeg (.int 1)).set mm1.toNatClampNeg (.int 0)).set mm0.toNatClampNeg (.int (-1)))[(0 : Int32).toNatClampNeg]?)))]) (W := 1) (argsL := [(.ref b134), (.int 1), (.int 0)]) A170 (m_exp1 l Z a0 hw b134 ((0 : Int32)) mm1 mm1 mm2) (Or.inr ⟨rfl, rfl⟩) (tw hw 41 rfl) (tw hw 42 rfl) (tw hw 43 rfl) (tw hw 44 rfl) (by decide) at_271 rfl (lenOf pd_7 rfl) rfl (Nat.le_of_eq rfl) (by decide) (by decide) (by decide) (by decide) rfl (fun T171 v172 os173 A174 P175 => ?_)
      obtain ⟨r_271, rfl, rfl, hq_271⟩ := P175
      have A176 := A174.cast (k2 := 5) (n2 := 15) (os2 := [(b3, .inr (.int, [(.int mm0), (.int mm1), (.int mm2)])), (b1_65, .inr (.int, [(.int mm1), (.int mm1), (.int 0)])), (b106, ob0 (.ref b1_65) (.ref b2_65) (.int 1)), (b2_65, .inr (.int, (((([(.int (-1)), (.int (-1)), (.int (-1))].set mm0.toNatClampNeg (.int 0)).set mm1.toNatClampNeg (.int 1)).set mm1.toNatClampNeg (.int 0)).set mm0.toNatClampNeg (.int (-1))))), (b134, .inr (.int, [(.int mm1), (.int mm1), (.int mm2)]))]) rfl rfl rfl
      have hc274_177 : (own_val ((((([(.int (-1)), (.int (-1)), (.int (-1))].set mm0.toNatClampNeg (.int 0)).set mm1.toNatClampNeg (.int 1)).set mm1.toNatClampNeg (.int 0)).set mm0.toNatClampNeg (.int (-1)))[(0 : Int32).toNatClampNeg]?)) = r_271 := by
        clear hw A0 A2 A4 A6 A7 A9 A10 A12 A13 A105 A107 A111 A113 A117 A119 A123 A125 A129 A131 A133 A135 A137 A138 A140 A141 A143 A144 A146 A147 A148 A152 A154 A155 A159 A161 A163 A167 A169 A170 A174 A176
        rcases hperm with ⟨rfl, rfl, rfl⟩ | ⟨rfl, rfl, rfl⟩ | ⟨rfl, rfl, rfl⟩ | ⟨rfl, rfl, rfl⟩ | ⟨rfl, rfl, rfl⟩ | ⟨rfl, rfl, rfl⟩ <;> rcases hq_271 with ⟨h, rfl⟩ | ⟨h, rfl⟩ <;> first | decide | (exfalso; revert h; decide)
      refine A176.icmpNo (q := 277) at_274 (teq hc274_177).2 rfl ?_
      refine A176.iconst (q := 278) (v := 1) at_277 rfl rfl ?_
      refine A176.goto (q := 282) at_278 (by decide) (by decide) ?_
      refine A176.istore (q := 284) (l' := #[.val (.int x0), .val (.int x1), .val (.int x2), .val (.int x3), .val (.int 2), .val (.int mm0), .val (.int ((1 : Int32) + (x2 &&& (1 : Int32)))), .val (.ref b3), .val (.ref b106), .val (.int 0), .val (.int mm0), .val (.ref b134), .val (.int 1), .val (.int 1)]) at_282 rfl rfl ?_
      refine A176.iload (q := 286) at_284 rfl rfl ?_
      refine A176.ifNo (q := 289) at_286 (by decide) rfl ?_
      refine A176.aload (q := 291) at_289 rfl rfl rfl ?_
      refine A176.iconst (q := 292) (v := 1) at_291 rfl rfl ?_
      have A178 := A176.pick (is := [0, 1, 4, 2, 3]) (os2 := [(b3, .inr (.int, [(.int mm0), (.int mm1), (.int mm2)])), (b1_65, .inr (.int, [(.int mm1), (.int mm1), (.int 0)])), (b134, .inr (.int, [(.int mm1), (.int mm1), (.int mm2)])), (b106, ob0 (.ref b1_65) (.ref b2_65) (.int 1)), (b2_65, .inr (.int, (((([(.int (-1)), (.int (-1)), (.int (-1))].set mm0.toNatClampNeg (.int 0)).set mm1.toNatClampNeg (.int 1)).set mm1.toNatClampNeg (.int 0)).set mm0.toNatClampNeg (.int (-1)))))]) (by decide) rfl
      refine Here.callV (qn := 295) (os1 := [(b3, .inr (.int, [(.int mm0), (.int mm1), (.int mm2)])), (b1_65, .inr (.int, [(.int mm1), (.int mm1), (.int 0)])), (b134, .inr (.int, [(.int mm1), (.int mm1), (.int mm2)]))]) (os2 := [(b106, ob0 (.ref b1_65) (.ref b2_65) (.int 1)), (b2_65, .inr (.int, (((([(.int (-1)), (.int (-1)), (.int (-1))].set mm0.toNatClampNeg (.int 0)).set mm1.toNatClampNeg (.int 1)).set mm1.toNatClampNeg (.int 0)).set mm0.toNatClampNeg (.int (-1)))))]) (rest := []) (W := 0) (argsL := [(.int 1)]) (a := b106) (i := 3) A178 (m_place1 l Z a0 hw b106 b1_65 b2_65 ((1 : Int32)) ((((([(.int (-1)), (.int (-1)), (.int (-1))].set mm0.toNatClampNeg (.int 0)).set mm1.toNatClampNeg (.int 1)).set mm1.toNatClampNeg (.int 0)).set mm0.toNatClampNeg (.int (-1)))) ((own_val ((((([(.int (-1)), (.int (-1)), (.int (-1))].set mm0.toNatClampNeg (.int 0)).set mm1.toNatClampNeg (.int 1)).set mm1.toNatClampNeg (.int 0)).set mm0.toNatClampNeg (.int (-1)))[(1 : Int32).toNatClampNeg]?))) (by rcases hperm with ⟨rfl, rfl, rfl⟩ | ⟨rfl, rfl, rfl⟩ | ⟨rfl, rfl, rfl⟩ | ⟨rfl, rfl, rfl⟩ | ⟨rfl, rfl, rfl⟩ | ⟨rfl, rfl, rfl⟩ <;> decide)) (Or.inr ⟨rfl, rfl⟩) rfl (tw hw 36 rfl) (tw hw 37 rfl) (tw hw 39 rfl) (tw hw 38 rfl) (tw hw 4 rfl) (tw hw 40 rfl) (by decide) at_292 rfl (lenOf pd_6 rfl) rfl (Nat.le_of_eq rfl) (by decide) (by decide) (by decide) (by decide) rfl (fun T179 v180 os181 A182 P183 => ?_)
      obtain ⟨rfl, rfl⟩ := P183
      have A184 := A182.cast (k2 := 5) (n2 := 15) (os2 := [(b3, .inr (.int, [(.int mm0), (.int mm1), (.int mm2)])), (b1_65, .inr (.int, [(.int mm1), (.int mm1), (.int 0)])), (b134, .inr (.int, [(.int mm1), (.int mm1), (.int mm2)])), (b106, ob0 (.ref b1_65) (.ref b2_65) (.int 1)), (b2_65, .inr (.int, (((([(.int (-1)), (.int (-1)), (.int (-1))].set mm0.toNatClampNeg (.int 0)).set mm1.toNatClampNeg (.int 1)).set mm1.toNatClampNeg (.int 0)).set mm0.toNatClampNeg (.int (-1)))))]) rfl rfl rfl
      refine A184.aload (q := 297) at_295 rfl rfl rfl ?_
      refine A184.iload (q := 299) at_297 rfl rfl ?_
      refine A184.iconst (q := 300) (v := 1) at_299 rfl rfl ?_
      have A185 := A184.pick (is := [0, 1, 3, 4, 2]) (os2 := [(b3, .inr (.int, [(.int mm0), (.int mm1), (.int mm2)])), (b1_65, .inr (.int, [(.int mm1), (.int mm1), (.int 0)])), (b106, ob0 (.ref b1_65) (.ref b2_65) (.int 1)), (b2_65, .inr (.int, (((([(.int (-1)), (.int (-1)), (.int (-1))].set mm0.toNatClampNeg (.int 0)).set mm1.toNatClampNeg (.int 1)).set mm1.toNatClampNeg (.int 0)).set mm0.toNatClampNeg (.int (-1))))), (b134, .inr (.int, [(.int mm1), (.int mm1), (.int mm2)]))]) (by decide) rfl
      refine Here.callS (qn := 303) (os1 := [(b3, .inr (.int, [(.int mm0), (.int mm1), (.int mm2)])), (b1_65, .inr (.int, [(.int mm1), (.int mm1), (.int 0)])), (b106, ob0 (.ref b1_65) (.ref b2_65) (.int 1)), (b2_65, .inr (.int, (((([(.int (-1)), (.int (-1)), (.int (-1))].set mm0.toNatClampNeg (.int 0)).set mm1.toNatClampNeg (.int 1)).set mm1.toNatClampNeg (.int 0)).set mm0.toNatClampNeg (.int (-1)))))]) (os2 := [(b134, .inr (.int, [(.int mm1), (.int mm1), (.int mm2)]))]) (rest := [(.int (own_val ((((([(.int (-1)), (.int (-1)), (.int (-1))].set mm0.toNatClampNeg (.int 0)).set mm1.toNatClampNeg (.int 1)).set mm1.toNatClampNeg (.int 0)).set mm0.toNatClampNeg (.int (-1)))[(1 : Int32).toNatClampNeg]?)))]) (W := 1) (argsL := [(.ref b134), (.int 1), (.int 1)]) A185 (m_exp1 l Z a0 hw b134 ((1 : Int32)) mm1 mm1 mm2) (Or.inr ⟨rfl, rfl⟩) (tw hw 41 rfl) (tw hw 42 rfl) (tw hw 43 rfl) (tw hw 44 rfl) (by decide) at_300 rfl (lenOf pd_7 rfl) rfl (Nat.le_of_eq rfl) (by decide) (by decide) (by decide) (by decide) rfl (fun T186 v187 os188 A189 P190 => ?_)
      obtain ⟨r_300, rfl, rfl, hq_300⟩ := P190
      have A191 := A189.cast (k2 := 5) (n2 := 15) (os2 := [(b3, .inr (.int, [(.int mm0), (.int mm1), (.int mm2)])), (b1_65, .inr (.int, [(.int mm1), (.int mm1), (.int 0)])), (b106, ob0 (.ref b1_65) (.ref b2_65) (.int 1)), (b2_65, .inr (.int, (((([(.int (-1)), (.int (-1)), (.int (-1))].set mm0.toNatClampNeg (.int 0)).set mm1.toNatClampNeg (.int 1)).set mm1.toNatClampNeg (.int 0)).set mm0.toNatClampNeg (.int (-1))))), (b134, .inr (.int, [(.int mm1), (.int mm1), (.int mm2)]))]) rfl rfl rfl
      have hc303_192 : (own_val ((((([(.int (-1)), (.int (-1)), (.int (-1))].set mm0.toNatClampNeg (.int 0)).set mm1.toNatClampNeg (.int 1)).set mm1.toNatClampNeg (.int 0)).set mm0.toNatClampNeg (.int (-1)))[(1 : Int32).toNatClampNeg]?)) = r_300 := by
        clear hw A0 A2 A4 A6 A7 A9 A10 A12 A13 A105 A107 A111 A113 A117 A119 A123 A125 A129 A131 A133 A135 A137 A138 A140 A141 A143 A144 A146 A147 A148 A152 A154 A155 A159 A161 A163 A167 A169 A170 A174 A176 A178 A182 A184 A185 A189 A191
        rcases hperm with ⟨rfl, rfl, rfl⟩ | ⟨rfl, rfl, rfl⟩ | ⟨rfl, rfl, rfl⟩ | ⟨rfl, rfl, rfl⟩ | ⟨rfl, rfl, rfl⟩ | ⟨rfl, rfl, rfl⟩ <;> rcases hq_300 with ⟨h, rfl⟩ | ⟨h, rfl⟩ <;> first | decide | (exfalso; revert h; decide)
      refine A191.icmpNo (q := 306) at_303 (teq hc303_192).2 rfl ?_
      refine A191.iconst (q := 307) (v := 1) at_306 rfl rfl ?_
      refine A191.goto (q := 311) at_307 (by decide) (by decide) ?_
      refine A191.istore (q := 313) (l' := #[.val (.int x0), .val (.int x1), .val (.int x2), .val (.int x3), .val (.int 2), .val (.int mm0), .val (.int ((1 : Int32) + (x2 &&& (1 : Int32)))), .val (.ref b3), .val (.ref b106), .val (.int 0), .val (.int mm0), .val (.ref b134), .val (.int 1), .val (.int 1)]) at_311 rfl rfl ?_
      refine A191.iload (q := 315) at_313 rfl rfl ?_
      refine A191.ifNo (q := 318) at_315 (by decide) rfl ?_
      refine A191.aload (q := 320) at_318 rfl rfl rfl ?_
      refine A191.iconst (q := 321) (v := 2) at_320 rfl rfl ?_
      have A193 := A191.pick (is := [0, 1, 4, 2, 3]) (os2 := [(b3, .inr (.int, [(.int mm0), (.int mm1), (.int mm2)])), (b1_65, .inr (.int, [(.int mm1), (.int mm1), (.int 0)])), (b134, .inr (.int, [(.int mm1), (.int mm1), (.int mm2)])), (b106, ob0 (.ref b1_65) (.ref b2_65) (.int 1)), (b2_65, .inr (.int, (((([(.int (-1)), (.int (-1)), (.int (-1))].set mm0.toNatClampNeg (.int 0)).set mm1.toNatClampNeg (.int 1)).set mm1.toNatClampNeg (.int 0)).set mm0.toNatClampNeg (.int (-1)))))]) (by decide) rfl
      refine Here.callV (qn := 324) (os1 := [(b3, .inr (.int, [(.int mm0), (.int mm1), (.int mm2)])), (b1_65, .inr (.int, [(.int mm1), (.int mm1), (.int 0)])), (b134, .inr (.int, [(.int mm1), (.int mm1), (.int mm2)]))]) (os2 := [(b106, ob0 (.ref b1_65) (.ref b2_65) (.int 1)), (b2_65, .inr (.int, (((([(.int (-1)), (.int (-1)), (.int (-1))].set mm0.toNatClampNeg (.int 0)).set mm1.toNatClampNeg (.int 1)).set mm1.toNatClampNeg (.int 0)).set mm0.toNatClampNeg (.int (-1)))))]) (rest := []) (W := 0) (argsL := [(.int 2)]) (a := b106) (i := 3) A193 (m_place2 l Z a0 hw b106 b1_65 b2_65 ((1 : Int32)) ((((([(.int (-1)), (.int (-1)), (.int (-1))].set mm0.toNatClampNeg (.int 0)).set mm1.toNatClampNeg (.int 1)).set mm1.toNatClampNeg (.int 0)).set mm0.toNatClampNeg (.int (-1)))) ((own_val ((((([(.int (-1)), (.int (-1)), (.int (-1))].set mm0.toNatClampNeg (.int 0)).set mm1.toNatClampNeg (.int 1)).set mm1.toNatClampNeg (.int 0)).set mm0.toNatClampNeg (.int (-1)))[(2 : Int32).toNatClampNeg]?))) (by rcases hperm with ⟨rfl, rfl, rfl⟩ | ⟨rfl, rfl, rfl⟩ | ⟨rfl, rfl, rfl⟩ | ⟨rfl, rfl, rfl⟩ | ⟨rfl, rfl, rfl⟩ | ⟨rfl, rfl, rfl⟩ <;> decide)) (Or.inr ⟨rfl, rfl⟩) rfl (tw hw 36 rfl) (tw hw 37 rfl) (tw hw 39 rfl) (tw hw 38 rfl) (tw hw 4 rfl) (tw hw 40 rfl) (by decide) at_321 rfl (lenOf pd_6 rfl) rfl (Nat.le_of_eq rfl) (by decide) (by decide) (by decide) (by decide) rfl (fun T194 v195 os196 A197 P198 => ?_)
      obtain ⟨rfl, rfl⟩ := P198
      have A199 := A197.cast (k2 := 5) (n2 := 15) (os2 := [(b3, .inr (.int, [(.int mm0), (.int mm1), (.int mm2)])), (b1_65, .inr (.int, [(.int mm1), (.int mm1), (.int 0)])), (b134, .inr (.int, [(.int mm1), (.int mm1), (.int mm2)])), (b106, ob0 (.ref b1_65) (.ref b2_65) (.int 1)), (b2_65, .inr (.int, (((([(.int (-1)), (.int (-1)), (.int (-1))].set mm0.toNatClampNeg (.int 0)).set mm1.toNatClampNeg (.int 1)).set mm1.toNatClampNeg (.int 0)).set mm0.toNatClampNeg (.int (-1)))))]) rfl rfl rfl
      refine A199.aload (q := 326) at_324 rfl rfl rfl ?_
      refine A199.iload (q := 328) at_326 rfl rfl ?_
      refine A199.iconst (q := 329) (v := 2) at_328 rfl rfl ?_
      have A200 := A199.pick (is := [0, 1, 3, 4, 2]) (os2 := [(b3, .inr (.int, [(.int mm0), (.int mm1), (.int mm2)])), (b1_65, .inr (.int, [(.int mm1), (.int mm1), (.int 0)])), (b106, ob0 (.ref b1_65) (.ref b2_65) (.int 1)), (b2_65, .inr (.int, (((([(.int (-1)), (.int (-1)), (.int (-1))].set mm0.toNatClampNeg (.int 0)).set mm1.toNatClampNeg (.int 1)).set mm1.toNatClampNeg (.int 0)).set mm0.toNatClampNeg (.int (-1))))), (b134, .inr (.int, [(.int mm1), (.int mm1), (.int mm2)]))]) (by decide) rfl
      refine Here.callS (qn := 332) (os1 := [(b3, .inr (.int, [(.int mm0), (.int mm1), (.int mm2)])), (b1_65, .inr (.int, [(.int mm1), (.int mm1), (.int 0)])), (b106, ob0 (.ref b1_65) (.ref b2_65) (.int 1)), (b2_65, .inr (.int, (((([(.int (-1)), (.int (-1)), (.int (-1))].set mm0.toNatClampNeg (.int 0)).set mm1.toNatClampNeg (.int 1)).set mm1.toNatClampNeg (.int 0)).set mm0.toNatClampNeg (.int (-1)))))]) (os2 := [(b134, .inr (.int, [(.int mm1), (.int mm1), (.int mm2)]))]) (rest := [(.int (own_val ((((([(.int (-1)), (.int (-1)), (.int (-1))].set mm0.toNatClampNeg (.int 0)).set mm1.toNatClampNeg (.int 1)).set mm1.toNatClampNeg (.int 0)).set mm0.toNatClampNeg (.int (-1)))[(2 : Int32).toNatClampNeg]?)))]) (W := 1) (argsL := [(.ref b134), (.int 1), (.int 2)]) A200 (m_exp1 l Z a0 hw b134 ((2 : Int32)) mm1 mm1 mm2) (Or.inr ⟨rfl, rfl⟩) (tw hw 41 rfl) (tw hw 42 rfl) (tw hw 43 rfl) (tw hw 44 rfl) (by decide) at_329 rfl (lenOf pd_7 rfl) rfl (Nat.le_of_eq rfl) (by decide) (by decide) (by decide) (by decide) rfl (fun T201 v202 os203 A204 P205 => ?_)
      obtain ⟨r_329, rfl, rfl, hq_329⟩ := P205
      have A206 := A204.cast (k2 := 5) (n2 := 15) (os2 := [(b3, .inr (.int, [(.int mm0), (.int mm1), (.int mm2)])), (b1_65, .inr (.int, [(.int mm1), (.int mm1), (.int 0)])), (b106, ob0 (.ref b1_65) (.ref b2_65) (.int 1)), (b2_65, .inr (.int, (((([(.int (-1)), (.int (-1)), (.int (-1))].set mm0.toNatClampNeg (.int 0)).set mm1.toNatClampNeg (.int 1)).set mm1.toNatClampNeg (.int 0)).set mm0.toNatClampNeg (.int (-1))))), (b134, .inr (.int, [(.int mm1), (.int mm1), (.int mm2)]))]) rfl rfl rfl
      have hc332_207 : (own_val ((((([(.int (-1)), (.int (-1)), (.int (-1))].set mm0.toNatClampNeg (.int 0)).set mm1.toNatClampNeg (.int 1)).set mm1.toNatClampNeg (.int 0)).set mm0.toNatClampNeg (.int (-1)))[(2 : Int32).toNatClampNeg]?)) = r_329 := by
        clear hw A0 A2 A4 A6 A7 A9 A10 A12 A13 A105 A107 A111 A113 A117 A119 A123 A125 A129 A131 A133 A135 A137 A138 A140 A141 A143 A144 A146 A147 A148 A152 A154 A155 A159 A161 A163 A167 A169 A170 A174 A176 A178 A182 A184 A185 A189 A191 A193 A197 A199 A200 A204 A206
        rcases hperm with ⟨rfl, rfl, rfl⟩ | ⟨rfl, rfl, rfl⟩ | ⟨rfl, rfl, rfl⟩ | ⟨rfl, rfl, rfl⟩ | ⟨rfl, rfl, rfl⟩ | ⟨rfl, rfl, rfl⟩ <;> rcases hq_329 with ⟨h, rfl⟩ | ⟨h, rfl⟩ <;> first | decide | (exfalso; revert h; decide)
      refine A206.icmpNo (q := 335) at_332 (teq hc332_207).2 rfl ?_
      refine A206.iconst (q := 336) (v := 1) at_335 rfl rfl ?_
      refine A206.goto (q := 340) at_336 (by decide) (by decide) ?_
      refine A206.istore (q := 342) (l' := #[.val (.int x0), .val (.int x1), .val (.int x2), .val (.int x3), .val (.int 2), .val (.int mm0), .val (.int ((1 : Int32) + (x2 &&& (1 : Int32)))), .val (.ref b3), .val (.ref b106), .val (.int 0), .val (.int mm0), .val (.ref b134), .val (.int 1), .val (.int 1)]) at_340 rfl rfl ?_
      refine A206.iload (q := 344) at_342 rfl rfl ?_
      exact A206.retN (by simp) at_344 (by decide) (by decide) ⟨rfl, trivial⟩
    · rw [ht]
      show Wp _ _ _ _ _ _ _ _ _ _ T120 (mkF m 116 #[.val (.int x0), .val (.int x1), .val (.int x2), .val (.int x3), .val (.int 2), .val (.int mm0), .val (.int ((1 : Int32) + (x2 &&& (1 : Int32)))), .val (.ref b3), .val (.ref b106), .unset, .unset, .unset, .unset, .unset] [(.int 1)])
      refine A125.istore (q := 118) (l' := #[.val (.int x0), .val (.int x1), .val (.int x2), .val (.int x3), .val (.int 2), .val (.int mm0), .val (.int ((1 : Int32) + (x2 &&& (1 : Int32)))), .val (.ref b3), .val (.ref b106), .val (.int 1), .unset, .unset, .unset, .unset]) at_116 rfl rfl ?_
      refine A125.aload (q := 120) at_118 rfl rfl rfl ?_
      refine A125.iload (q := 122) at_120 rfl rfl ?_
      refine A125.ldI (qn := 123) (i := 0) at_122 rfl (by decide) rfl rfl ?_
      refine A125.istore (q := 125) (l' := #[.val (.int x0), .val (.int x1), .val (.int x2), .val (.int x3), .val (.int 2), .val (.int mm0), .val (.int ((1 : Int32) + (x2 &&& (1 : Int32)))), .val (.ref b3), .val (.ref b106), .val (.int 1), .val (.int mm1), .unset, .unset, .unset]) at_123 rfl rfl ?_
      refine A125.aload (q := 127) at_125 rfl rfl rfl ?_
      refine A125.iload (q := 129) at_127 rfl rfl ?_
      refine Here.callV (qn := 132) (os1 := [(b3, .inr (.int, [(.int mm0), (.int mm1), (.int mm2)]))]) (os2 := [(b106, ob0 (.ref b1_65) (.ref b2_65) (.int 2)), (b1_65, .inr (.int, [(.int mm0), (.int mm1), (.int 0)])), (b2_65, .inr (.int, (([(.int (-1)), (.int (-1)), (.int (-1))].set mm0.toNatClampNeg (.int 0)).set mm1.toNatClampNeg (.int 1))))]) (rest := []) (W := 0) (argsL := [(.int mm1)]) (a := b106) (i := 1) A125 (m_rem21 l Z a0 hw b106 b1_65 b2_65 mm1 mm0 mm1 ((0 : Int32)) ((([(.int (-1)), (.int (-1)), (.int (-1))].set mm0.toNatClampNeg (.int 0)).set mm1.toNatClampNeg (.int 1))) (by rcases hperm with ⟨rfl, rfl, rfl⟩ | ⟨rfl, rfl, rfl⟩ | ⟨rfl, rfl, rfl⟩ | ⟨rfl, rfl, rfl⟩ | ⟨rfl, rfl, rfl⟩ | ⟨rfl, rfl, rfl⟩ <;> decide) (by rcases hperm with ⟨rfl, rfl, rfl⟩ | ⟨rfl, rfl, rfl⟩ | ⟨rfl, rfl, rfl⟩ | ⟨rfl, rfl, rfl⟩ | ⟨rfl, rfl, rfl⟩ | ⟨rfl, rfl, rfl⟩ <;> decide) (by rcases hperm with ⟨rfl, rfl, rfl⟩ | ⟨rfl, rfl, rfl⟩ | ⟨rfl, rfl, rfl⟩ | ⟨rfl, rfl, rfl⟩ | ⟨rfl, rfl, rfl⟩ | ⟨rfl, rfl, rfl⟩ <;> decide) (by rcases hperm with ⟨rfl, rfl, rfl⟩ | ⟨rfl, rfl, rfl⟩ | ⟨rfl, rfl, rfl⟩ | ⟨rfl, rfl, rfl⟩ | ⟨rfl, rfl, rfl⟩ | ⟨rfl, rfl, rfl⟩ <;> decide) (by rcases hperm with ⟨rfl, rfl, rfl⟩ | ⟨rfl, rfl, rfl⟩ | ⟨rfl, rfl, rfl⟩ | ⟨rfl, rfl, rfl⟩ | ⟨rfl, rfl, rfl⟩ | ⟨rfl, rfl, rfl⟩ <;> decide)) (Or.inr ⟨rfl, rfl⟩) rfl (tw hw 26 rfl) (tw hw 27 rfl) (tw hw 29 rfl) (tw hw 28 rfl) (tw hw 4 rfl) (tw hw 30 rfl) (by decide) at_129 rfl (lenOf pd_4 rfl) rfl (Nat.le_of_eq rfl) (by decide) (by decide) (by decide) (by decide) rfl (fun T208 v209 os210 A211 P212 => ?_)
      obtain ⟨rfl, rfl⟩ := P212
      have A213 := A211.cast (k2 := 4) (n2 := 12) (os2 := [(b3, .inr (.int, [(.int mm0), (.int mm1), (.int mm2)])), (b106, ob0 (.ref b1_65) (.ref b2_65) (.int 1)), (b1_65, .inr (.int, [(.int mm0), (.int mm1), (.int 0)])), (b2_65, .inr (.int, (((([(.int (-1)), (.int (-1)), (.int (-1))].set mm0.toNatClampNeg (.int 0)).set mm1.toNatClampNeg (.int 1)).set mm1.toNatClampNeg (.int 1)).set mm1.toNatClampNeg (.int (-1)))))]) rfl rfl rfl
      refine A213.iconst (q := 133) (v := 3) at_132 rfl rfl ?_
      refine A213.newP (qn := 135) (cap := 3) (tw hw 1 rfl) at_133 (by decide) (by decide) (by decide) (by decide) (by decide) rfl (fun T214 b216 A215 => ?_)
      have A217 := A215.cast (k2 := 5) (n2 := 15) (os2 := [(b3, .inr (.int, [(.int mm0), (.int mm1), (.int mm2)])), (b106, ob0 (.ref b1_65) (.ref b2_65) (.int 1)), (b1_65, .inr (.int, [(.int mm0), (.int mm1), (.int 0)])), (b2_65, .inr (.int, (((([(.int (-1)), (.int (-1)), (.int (-1))].set mm0.toNatClampNeg (.int 0)).set mm1.toNatClampNeg (.int 1)).set mm1.toNatClampNeg (.int 1)).set mm1.toNatClampNeg (.int (-1))))), (b216, .inr (.int, [(.int 0), (.int 0), (.int 0)]))]) rfl rfl rfl
      refine A217.astore (q := 137) (l' := #[.val (.int x0), .val (.int x1), .val (.int x2), .val (.int x3), .val (.int 2), .val (.int mm0), .val (.int ((1 : Int32) + (x2 &&& (1 : Int32)))), .val (.ref b3), .val (.ref b106), .val (.int 1), .val (.int mm1), .val (.ref b216), .unset, .unset]) at_135 rfl rfl rfl ?_
      refine A217.aload (q := 139) at_137 rfl rfl rfl ?_
      refine A217.iconst (q := 140) (v := 0) at_139 rfl rfl ?_
      refine A217.aload (q := 142) at_140 rfl rfl rfl ?_
      refine A217.iconst (q := 143) (v := 0) at_142 rfl rfl ?_
      refine A217.ldI (qn := 144) (i := 0) at_143 rfl (by decide) rfl rfl ?_
      refine A217.stI (qn := 145) (i := 4) at_144 rfl (by decide) (show (0 : Int32).toNatClampNeg < 3 from by decide) rfl rfl (fun T218 A219 => ?_)
      have A220 := A219.cast (k2 := 5) (n2 := 15) (os2 := [(b3, .inr (.int, [(.int mm0), (.int mm1), (.int mm2)])), (b106, ob0 (.ref b1_65) (.ref b2_65) (.int 1)), (b1_65, .inr (.int, [(.int mm0), (.int mm1), (.int 0)])), (b2_65, .inr (.int, (((([(.int (-1)), (.int (-1)), (.int (-1))].set mm0.toNatClampNeg (.int 0)).set mm1.toNatClampNeg (.int 1)).set mm1.toNatClampNeg (.int 1)).set mm1.toNatClampNeg (.int (-1))))), (b216, .inr (.int, [(.int mm0), (.int 0), (.int 0)]))]) rfl rfl rfl
      refine A220.aload (q := 147) at_145 rfl rfl rfl ?_
      refine A220.iconst (q := 148) (v := 1) at_147 rfl rfl ?_
      refine A220.aload (q := 150) at_148 rfl rfl rfl ?_
      refine A220.iconst (q := 151) (v := 1) at_150 rfl rfl ?_
      refine A220.ldI (qn := 152) (i := 0) at_151 rfl (by decide) rfl rfl ?_
      refine A220.stI (qn := 153) (i := 4) at_152 rfl (by decide) (show (1 : Int32).toNatClampNeg < 3 from by decide) rfl rfl (fun T221 A222 => ?_)
      have A223 := A222.cast (k2 := 5) (n2 := 15) (os2 := [(b3, .inr (.int, [(.int mm0), (.int mm1), (.int mm2)])), (b106, ob0 (.ref b1_65) (.ref b2_65) (.int 1)), (b1_65, .inr (.int, [(.int mm0), (.int mm1), (.int 0)])), (b2_65, .inr (.int, (((([(.int (-1)), (.int (-1)), (.int (-1))].set mm0.toNatClampNeg (.int 0)).set mm1.toNatClampNeg (.int 1)).set mm1.toNatClampNeg (.int 1)).set mm1.toNatClampNeg (.int (-1))))), (b216, .inr (.int, [(.int mm0), (.int mm1), (.int 0)]))]) rfl rfl rfl
      refine A223.aload (q := 155) at_153 rfl rfl rfl ?_
      refine A223.iconst (q := 156) (v := 2) at_155 rfl rfl ?_
      refine A223.aload (q := 158) at_156 rfl rfl rfl ?_
      refine A223.iconst (q := 159) (v := 2) at_158 rfl rfl ?_
      refine A223.ldI (qn := 160) (i := 0) at_159 rfl (by decide) rfl rfl ?_
      refine A223.stI (qn := 161) (i := 4) at_160 rfl (by decide) (show (2 : Int32).toNatClampNeg < 3 from by decide) rfl rfl (fun T224 A225 => ?_)
      have A226 := A225.cast (k2 := 5) (n2 := 15) (os2 := [(b3, .inr (.int, [(.int mm0), (.int mm1), (.int mm2)])), (b106, ob0 (.ref b1_65) (.ref b2_65) (.int 1)), (b1_65, .inr (.int, [(.int mm0), (.int mm1), (.int 0)])), (b2_65, .inr (.int, (((([(.int (-1)), (.int (-1)), (.int (-1))].set mm0.toNatClampNeg (.int 0)).set mm1.toNatClampNeg (.int 1)).set mm1.toNatClampNeg (.int 1)).set mm1.toNatClampNeg (.int (-1))))), (b216, .inr (.int, [(.int mm0), (.int mm1), (.int mm2)]))]) rfl rfl rfl
      refine A226.iload (q := 163) at_161 rfl rfl ?_
      refine A226.iconst (q := 164) (v := 1) at_163 rfl rfl ?_
      refine A226.isub (q := 165) at_164 rfl ?_
      refine Wp.top (v' := (.int 1)) rfl ?_
      refine A226.istore (q := 167) (l' := #[.val (.int x0), .val (.int x1), .val (.int x2), .val (.int x3), .val (.int 2), .val (.int mm0), .val (.int ((1 : Int32) + (x2 &&& (1 : Int32)))), .val (.ref b3), .val (.ref b106), .val (.int 1), .val (.int mm1), .val (.ref b216), .val (.int 1), .unset]) at_165 rfl rfl ?_
      refine A226.aload (q := 169) at_167 rfl rfl rfl ?_
      refine A226.iload (q := 171) at_169 rfl rfl ?_
      refine A226.aload (q := 173) at_171 rfl rfl rfl ?_
      refine A226.iload (q := 175) at_173 rfl rfl ?_
      refine A226.ldI (qn := 176) (i := 0) at_175 rfl (by decide) rfl rfl ?_
      refine A226.stI (qn := 177) (i := 4) at_176 rfl (by decide) (show (1 : Int32).toNatClampNeg < 3 from by decide) rfl rfl (fun T227 A228 => ?_)
      have A229 := A228.cast (k2 := 5) (n2 := 15) (os2 := [(b3, .inr (.int, [(.int mm0), (.int mm1), (.int mm2)])), (b106, ob0 (.ref b1_65) (.ref b2_65) (.int 1)), (b1_65, .inr (.int, [(.int mm0), (.int mm1), (.int 0)])), (b2_65, .inr (.int, (((([(.int (-1)), (.int (-1)), (.int (-1))].set mm0.toNatClampNeg (.int 0)).set mm1.toNatClampNeg (.int 1)).set mm1.toNatClampNeg (.int 1)).set mm1.toNatClampNeg (.int (-1))))), (b216, .inr (.int, [(.int mm0), (.int mm1), (.int mm2)]))]) rfl rfl rfl
      refine A229.aload (q := 179) at_177 rfl rfl rfl ?_
      have A230 := A229.pick (is := [0, 2, 3, 4, 1]) (os2 := [(b3, .inr (.int, [(.int mm0), (.int mm1), (.int mm2)])), (b1_65, .inr (.int, [(.int mm0), (.int mm1), (.int 0)])), (b2_65, .inr (.int, (((([(.int (-1)), (.int (-1)), (.int (-1))].set mm0.toNatClampNeg (.int 0)).set mm1.toNatClampNeg (.int 1)).set mm1.toNatClampNeg (.int 1)).set mm1.toNatClampNeg (.int (-1))))), (b216, .inr (.int, [(.int mm0), (.int mm1), (.int mm2)])), (b106, ob0 (.ref b1_65) (.ref b2_65) (.int 1))]) (by decide) rfl
      refine Here.callV (qn := 182) (os1 := [(b3, .inr (.int, [(.int mm0), (.int mm1), (.int mm2)])), (b1_65, .inr (.int, [(.int mm0), (.int mm1), (.int 0)])), (b2_65, .inr (.int, (((([(.int (-1)), (.int (-1)), (.int (-1))].set mm0.toNatClampNeg (.int 0)).set mm1.toNatClampNeg (.int 1)).set mm1.toNatClampNeg (.int 1)).set mm1.toNatClampNeg (.int (-1))))), (b216, .inr (.int, [(.int mm0), (.int mm1), (.int mm2)]))]) (os2 := [(b106, ob0 (.ref b1_65) (.ref b2_65) (.int 1))]) (rest := []) (W := 0) (argsL := []) (a := b106) (i := 4) A230 (m_size l Z a0 hw b106 b1_65 b2_65 ((1 : Int32))) (Or.inr ⟨rfl, rfl⟩) rfl (tw hw 31 rfl) (tw hw 32 rfl) (tw hw 34 rfl) (tw hw 33 rfl) (tw hw 4 rfl) (tw hw 35 rfl) (by decide) at_179 rfl (lenOf pd_5 rfl) rfl (Nat.le_of_eq rfl) (by decide) (by decide) (by decide) (by decide) rfl (fun T231 v232 os233 A234 P235 => ?_)
      obtain ⟨rfl, rfl⟩ := P235
      have A236 := A234.cast (k2 := 5) (n2 := 15) (os2 := [(b3, .inr (.int, [(.int mm0), (.int mm1), (.int mm2)])), (b1_65, .inr (.int, [(.int mm0), (.int mm1), (.int 0)])), (b2_65, .inr (.int, (((([(.int (-1)), (.int (-1)), (.int (-1))].set mm0.toNatClampNeg (.int 0)).set mm1.toNatClampNeg (.int 1)).set mm1.toNatClampNeg (.int 1)).set mm1.toNatClampNeg (.int (-1))))), (b216, .inr (.int, [(.int mm0), (.int mm1), (.int mm2)])), (b106, ob0 (.ref b1_65) (.ref b2_65) (.int 1))]) rfl rfl rfl
      refine A236.iload (q := 184) at_182 rfl rfl ?_
      refine A236.icmpNo (q := 187) at_184 (by decide) rfl ?_
      refine A236.iconst (q := 188) (v := 1) at_187 rfl rfl ?_
      refine A236.goto (q := 192) at_188 (by decide) (by decide) ?_
      refine A236.istore (q := 194) (l' := #[.val (.int x0), .val (.int x1), .val (.int x2), .val (.int x3), .val (.int 2), .val (.int mm0), .val (.int ((1 : Int32) + (x2 &&& (1 : Int32)))), .val (.ref b3), .val (.ref b106), .val (.int 1), .val (.int mm1), .val (.ref b216), .val (.int 1), .val (.int 1)]) at_192 rfl rfl ?_
      refine A236.iload (q := 196) at_194 rfl rfl ?_
      refine A236.ifNo (q := 199) at_196 (by decide) rfl ?_
      refine A236.iload (q := 201) at_199 rfl rfl ?_
      refine A236.ifNo (q := 204) at_201 (by decide) rfl ?_
      refine A236.aload (q := 206) at_204 rfl rfl rfl ?_
      refine A236.iconst (q := 207) (v := 0) at_206 rfl rfl ?_
      have A237 := A236.pick (is := [0, 2, 3, 4, 1]) (os2 := [(b3, .inr (.int, [(.int mm0), (.int mm1), (.int mm2)])), (b2_65, .inr (.int, (((([(.int (-1)), (.int (-1)), (.int (-1))].set mm0.toNatClampNeg (.int 0)).set mm1.toNatClampNeg (.int 1)).set mm1.toNatClampNeg (.int 1)).set mm1.toNatClampNeg (.int (-1))))), (b216, .inr (.int, [(.int mm0), (.int mm1), (.int mm2)])), (b106, ob0 (.ref b1_65) (.ref b2_65) (.int 1)), (b1_65, .inr (.int, [(.int mm0), (.int mm1), (.int 0)]))]) (by decide) rfl
      refine Here.callV (qn := 210) (os1 := [(b3, .inr (.int, [(.int mm0), (.int mm1), (.int mm2)])), (b2_65, .inr (.int, (((([(.int (-1)), (.int (-1)), (.int (-1))].set mm0.toNatClampNeg (.int 0)).set mm1.toNatClampNeg (.int 1)).set mm1.toNatClampNeg (.int 1)).set mm1.toNatClampNeg (.int (-1))))), (b216, .inr (.int, [(.int mm0), (.int mm1), (.int mm2)]))]) (os2 := [(b106, ob0 (.ref b1_65) (.ref b2_65) (.int 1)), (b1_65, .inr (.int, [(.int mm0), (.int mm1), (.int 0)]))]) (rest := []) (W := 0) (argsL := [(.int 0)]) (a := b106) (i := 3) A237 (m_get0 l Z a0 hw b106 b1_65 b2_65 ((1 : Int32)) mm0 mm1 ((0 : Int32))) (Or.inr ⟨rfl, rfl⟩) rfl (tw hw 45 rfl) (tw hw 46 rfl) (tw hw 48 rfl) (tw hw 47 rfl) (tw hw 4 rfl) (tw hw 49 rfl) (by decide) at_207 rfl (lenOf pd_6 rfl) rfl (Nat.le_of_eq rfl) (by decide) (by decide) (by decide) (by decide) rfl (fun T238 v239 os240 A241 P242 => ?_)
      obtain ⟨rfl, rfl⟩ := P242
      have A243 := A241.cast (k2 := 5) (n2 := 15) (os2 := [(b3, .inr (.int, [(.int mm0), (.int mm1), (.int mm2)])), (b2_65, .inr (.int, (((([(.int (-1)), (.int (-1)), (.int (-1))].set mm0.toNatClampNeg (.int 0)).set mm1.toNatClampNeg (.int 1)).set mm1.toNatClampNeg (.int 1)).set mm1.toNatClampNeg (.int (-1))))), (b216, .inr (.int, [(.int mm0), (.int mm1), (.int mm2)])), (b106, ob0 (.ref b1_65) (.ref b2_65) (.int 1)), (b1_65, .inr (.int, [(.int mm0), (.int mm1), (.int 0)]))]) rfl rfl rfl
      refine A243.aload (q := 212) at_210 rfl rfl rfl ?_
      refine A243.iconst (q := 213) (v := 0) at_212 rfl rfl ?_
      refine A243.ldI (qn := 214) (i := 2) at_213 rfl (by decide) rfl rfl ?_
      have hc214_244 : mm0 = mm0 := by
        clear hw A0 A2 A4 A6 A7 A9 A10 A12 A13 A105 A107 A111 A113 A117 A119 A123 A125 A211 A213 A215 A217 A219 A220 A222 A223 A225 A226 A228 A229 A230 A234 A236 A237 A241 A243
        rfl
      refine A243.icmpNo (q := 217) at_214 (teq hc214_244).2 rfl ?_
      refine A243.iconst (q := 218) (v := 1) at_217 rfl rfl ?_
      refine A243.goto (q := 222) at_218 (by decide) (by decide) ?_
      refine A243.istore (q := 224) (l' := #[.val (.int x0), .val (.int x1), .val (.int x2), .val (.int x3), .val (.int 2), .val (.int mm0), .val (.int ((1 : Int32) + (x2 &&& (1 : Int32)))), .val (.ref b3), .val (.ref b106), .val (.int 1), .val (.int mm1), .val (.ref b216), .val (.int 1), .val (.int 1)]) at_222 rfl rfl ?_
      refine A243.iload (q := 226) at_224 rfl rfl ?_
      refine A243.iconst (q := 227) (v := 1) at_226 rfl rfl ?_
      refine A243.icmpYes (q := 255) at_227 (by decide) (by decide) (by decide) ?_
      refine A243.iload (q := 257) at_255 rfl rfl ?_
      refine A243.ifNo (q := 260) at_257 (by decide) rfl ?_
      refine A243.aload (q := 262) at_260 rfl rfl rfl ?_
      refine A243.iconst (q := 263) (v := 0) at_262 rfl rfl ?_
      have A245 := A243.pick (is := [0, 2, 4, 3, 1]) (os2 := [(b3, .inr (.int, [(.int mm0), (.int mm1), (.int mm2)])), (b216, .inr (.int, [(.int mm0), (.int mm1), (.int mm2)])), (b1_65, .inr (.int, [(.int mm0), (.int mm1), (.int 0)])), (b106, ob0 (.ref b1_65) (.ref b2_65) (.int 1)), (b2_65, .inr (.int, (((([(.int (-1)), (.int (-1)), (.int (-1))].set mm0.toNatClampNeg (.int 0)).set mm1.toNatClampNeg (.int 1)).set mm1.toNatClampNeg (.int 1)).set mm1.toNatClampNeg (.int (-1)))))]) (by decide) rfl
      refine Here.callV (qn := 266) (os1 := [(b3, .inr (.int, [(.int mm0), (.int mm1), (.int mm2)])), (b216, .inr (.int, [(.int mm0), (.int mm1), (.int mm2)])), (b1_65, .inr (.int, [(.int mm0), (.int mm1), (.int 0)]))]) (os2 := [(b106, ob0 (.ref b1_65) (.ref b2_65) (.int 1)), (b2_65, .inr (.int, (((([(.int (-1)), (.int (-1)), (.int (-1))].set mm0.toNatClampNeg (.int 0)).set mm1.toNatClampNeg (.int 1)).set mm1.toNatClampNeg (.int 1)).set mm1.toNatClampNeg (.int (-1)))))]) (rest := []) (W := 0) (argsL := [(.int 0)]) (a := b106) (i := 3) A245 (m_place0 l Z a0 hw b106 b1_65 b2_65 ((1 : Int32)) ((((([(.int (-1)), (.int (-1)), (.int (-1))].set mm0.toNatClampNeg (.int 0)).set mm1.toNatClampNeg (.int 1)).set mm1.toNatClampNeg (.int 1)).set mm1.toNatClampNeg (.int (-1)))) ((own_val ((((([(.int (-1)), (.int (-1)), (.int (-1))].set mm0.toNatClampNeg (.int 0)).set mm1.toNatClampNeg (.int 1)).set mm1.toNatClampNeg (.int 1)).set mm1.toNatClampNeg (.int (-1)))[(0 : Int32).toNatClampNeg]?))) (by rcases hperm with ⟨rfl, rfl, rfl⟩ | ⟨rfl, rfl, rfl⟩ | ⟨rfl, rfl, rfl⟩ | ⟨rfl, rfl, rfl⟩ | ⟨rfl, rfl, rfl⟩ | ⟨rfl, rfl, rfl⟩ <;> decide)) (Or.inr ⟨rfl, rfl⟩) rfl (tw hw 36 rfl) (tw hw 37 rfl) (tw hw 39 rfl) (tw hw 38 rfl) (tw hw 4 rfl) (tw hw 40 rfl) (by decide) at_263 rfl (lenOf pd_6 rfl) rfl (Nat.le_of_eq rfl) (by decide) (by decide) (by decide) (by decide) rfl (fun T246 v247 os248 A249 P250 => ?_)
      obtain ⟨rfl, rfl⟩ := P250
      have A251 := A249.cast (k2 := 5) (n2 := 15) (os2 := [(b3, .inr (.int, [(.int mm0), (.int mm1), (.int mm2)])), (b216, .inr (.int, [(.int mm0), (.int mm1), (.int mm2)])), (b1_65, .inr (.int, [(.int mm0), (.int mm1), (.int 0)])), (b106, ob0 (.ref b1_65) (.ref b2_65) (.int 1)), (b2_65, .inr (.int, (((([(.int (-1)), (.int (-1)), (.int (-1))].set mm0.toNatClampNeg (.int 0)).set mm1.toNatClampNeg (.int 1)).set mm1.toNatClampNeg (.int 1)).set mm1.toNatClampNeg (.int (-1)))))]) rfl rfl rfl
      refine A251.aload (q := 268) at_266 rfl rfl rfl ?_
      refine A251.iload (q := 270) at_268 rfl rfl ?_
      refine A251.iconst (q := 271) (v := 0) at_270 rfl rfl ?_
      have A252 := A251.pick (is := [0, 2, 3, 4, 1]) (os2 := [(b3, .inr (.int, [(.int mm0), (.int mm1), (.int mm2)])), (b1_65, .inr (.int, [(.int mm0), (.int mm1), (.int 0)])), (b106, ob0 (.ref b1_65) (.ref b2_65) (.int 1)), (b2_65, .inr (.int, (((([(.int (-1)), (.int (-1)), (.int (-1))].set mm0.toNatClampNeg (.int 0)).set mm1.toNatClampNeg (.int 1)).set mm1.toNatClampNeg (.int 1)).set mm1.toNatClampNeg (.int (-1))))), (b216, .inr (.int, [(.int mm0), (.int mm1), (.int mm2)]))]) (by decide) rfl
      refine Here.callS (qn := 274) (os1 := [(b3, .inr (.int, [(.int mm0), (.int mm1), (.int mm2)])), (b1_65, .inr (.int, [(.int mm0), (.int mm1), (.int 0)])), (b106, ob0 (.ref b1_65) (.ref b2_65) (.int 1)), (b2_65, .inr (.int, (((([(.int (-1)), (.int (-1)), (.int (-1))].set mm0.toNatClampNeg (.int 0)).set mm1.toNatClampNeg (.int 1)).set mm1.toNatClampNeg (.int 1)).set mm1.toNatClampNeg (.int (-1)))))]) (os2 := [(b216, .inr (.int, [(.int mm0), (.int mm1), (.int mm2)]))]) (rest := [(.int (own_val ((((([(.int (-1)), (.int (-1)), (.int (-1))].set mm0.toNatClampNeg (.int 0)).set mm1.toNatClampNeg (.int 1)).set mm1.toNatClampNeg (.int 1)).set mm1.toNatClampNeg (.int (-1)))[(0 : Int32).toNatClampNeg]?)))]) (W := 1) (argsL := [(.ref b216), (.int 1), (.int 0)]) A252 (m_exp1 l Z a0 hw b216 ((0 : Int32)) mm0 mm1 mm2) (Or.inr ⟨rfl, rfl⟩) (tw hw 41 rfl) (tw hw 42 rfl) (tw hw 43 rfl) (tw hw 44 rfl) (by decide) at_271 rfl (lenOf pd_7 rfl) rfl (Nat.le_of_eq rfl) (by decide) (by decide) (by decide) (by decide) rfl (fun T253 v254 os255 A256 P257 => ?_)
      obtain ⟨r_271, rfl, rfl, hq_271⟩ := P257
      have A258 := A256.cast (k2 := 5) (n2 := 15) (os2 := [(b3, .inr (.int, [(.int mm0), (.int mm1), (.int mm2)])), (b1_65, .inr (.int, [(.int mm0), (.int mm1), (.int 0)])), (b106, ob0 (.ref b1_65) (.ref b2_65) (.int 1)), (b2_65, .inr (.int, (((([(.int (-1)), (.int (-1)), (.int (-1))].set mm0.toNatClampNeg (.int 0)).set mm1.toNatClampNeg (.int 1)).set mm1.toNatClampNeg (.int 1)).set mm1.toNatClampNeg (.int (-1))))), (b216, .inr (.int, [(.int mm0), (.int mm1), (.int mm2)]))]) rfl rfl rfl
      have hc274_259 : (own_val ((((([(.int (-1)), (.int (-1)), (.int (-1))].set mm0.toNatClampNeg (.int 0)).set mm1.toNatClampNeg (.int 1)).set mm1.toNatClampNeg (.int 1)).set mm1.toNatClampNeg (.int (-1)))[(0 : Int32).toNatClampNeg]?)) = r_271 := by
        clear hw A0 A2 A4 A6 A7 A9 A10 A12 A13 A105 A107 A111 A113 A117 A119 A123 A125 A211 A213 A215 A217 A219 A220 A222 A223 A225 A226 A228 A229 A230 A234 A236 A237 A241 A243 A245 A249 A251 A252 A256 A258
        rcases hperm with ⟨rfl, rfl, rfl⟩ | ⟨rfl, rfl, rfl⟩ | ⟨rfl, rfl, rfl⟩ | ⟨rfl, rfl, rfl⟩ | ⟨rfl, rfl, rfl⟩ | ⟨rfl, rfl, rfl⟩ <;> rcases hq_271 with ⟨h, rfl⟩ | ⟨h, rfl⟩ <;> first | decide | (exfalso; revert h; decide)
      refine A258.icmpNo (q := 277) at_274 (teq hc274_259).2 rfl ?_
      refine A258.iconst (q := 278) (v := 1) at_277 rfl rfl ?_
      refine A258.goto (q := 282) at_278 (by decide) (by decide) ?_
      refine A258.istore (q := 284) (l' := #[.val (.int x0), .val (.int x1), .val (.int x2), .val (.int x3), .val (.int 2), .val (.int mm0), .val (.int ((1 : Int32) + (x2 &&& (1 : Int32)))), .val (.ref b3), .val (.ref b106), .val (.int 1), .val (.int mm1), .val (.ref b216), .val (.int 1), .val (.int 1)]) at_282 rfl rfl ?_
      refine A258.iload (q := 286) at_284 rfl rfl ?_
      refine A258.ifNo (q := 289) at_286 (by decide) rfl ?_
      refine A258.aload (q := 291) at_289 rfl rfl rfl ?_
      refine A258.iconst (q := 292) (v := 1) at_291 rfl rfl ?_
      have A260 := A258.pick (is := [0, 1, 4, 2, 3]) (os2 := [(b3, .inr (.int, [(.int mm0), (.int mm1), (.int mm2)])), (b1_65, .inr (.int, [(.int mm0), (.int mm1), (.int 0)])), (b216, .inr (.int, [(.int mm0), (.int mm1), (.int mm2)])), (b106, ob0 (.ref b1_65) (.ref b2_65) (.int 1)), (b2_65, .inr (.int, (((([(.int (-1)), (.int (-1)), (.int (-1))].set mm0.toNatClampNeg (.int 0)).set mm1.toNatClampNeg (.int 1)).set mm1.toNatClampNeg (.int 1)).set mm1.toNatClampNeg (.int (-1)))))]) (by decide) rfl
      refine Here.callV (qn := 295) (os1 := [(b3, .inr (.int, [(.int mm0), (.int mm1), (.int mm2)])), (b1_65, .inr (.int, [(.int mm0), (.int mm1), (.int 0)])), (b216, .inr (.int, [(.int mm0), (.int mm1), (.int mm2)]))]) (os2 := [(b106, ob0 (.ref b1_65) (.ref b2_65) (.int 1)), (b2_65, .inr (.int, (((([(.int (-1)), (.int (-1)), (.int (-1))].set mm0.toNatClampNeg (.int 0)).set mm1.toNatClampNeg (.int 1)).set mm1.toNatClampNeg (.int 1)).set mm1.toNatClampNeg (.int (-1)))))]) (rest := []) (W := 0) (argsL := [(.int 1)]) (a := b106) (i := 3) A260 (m_place1 l Z a0 hw b106 b1_65 b2_65 ((1 : Int32)) ((((([(.int (-1)), (.int (-1)), (.int (-1))].set mm0.toNatClampNeg (.int 0)).set mm1.toNatClampNeg (.int 1)).set mm1.toNatClampNeg (.int 1)).set mm1.toNatClampNeg (.int (-1)))) ((own_val ((((([(.int (-1)), (.int (-1)), (.int (-1))].set mm0.toNatClampNeg (.int 0)).set mm1.toNatClampNeg (.int 1)).set mm1.toNatClampNeg (.int 1)).set mm1.toNatClampNeg (.int (-1)))[(1 : Int32).toNatClampNeg]?))) (by rcases hperm with ⟨rfl, rfl, rfl⟩ | ⟨rfl, rfl, rfl⟩ | ⟨rfl, rfl, rfl⟩ | ⟨rfl, rfl, rfl⟩ | ⟨rfl, rfl, rfl⟩ | ⟨rfl, rfl, rfl⟩ <;> decide)) (Or.inr ⟨rfl, rfl⟩) rfl (tw hw 36 rfl) (tw hw 37 rfl) (tw hw 39 rfl) (tw hw 38 rfl) (tw hw 4 rfl) (tw hw 40 rfl) (by decide) at_292 rfl (lenOf pd_6 rfl) rfl (Nat.le_of_eq rfl) (by decide) (by decide) (by decide) (by decide) rfl (fun T261 v262 os263 A264 P265 => ?_)
      obtain ⟨rfl, rfl⟩ := P265
      have A266 := A264.cast (k2 := 5) (n2 := 15) (os2 := [(b3, .inr (.int, [(.int mm0), (.int mm1), (.int mm2)])), (b1_65, .inr (.int, [(.int mm0), (.int mm1), (.int 0)])), (b216, .inr (.int, [(.int mm0), (.int mm1), (.int mm2)])), (b106, ob0 (.ref b1_65) (.ref b2_65) (.int 1)), (b2_65, .inr (.int, (((([(.int (-1)), (.int (-1)), (.int (-1))].set mm0.toNatClampNeg (.int 0)).set mm1.toNatClampNeg (.int 1)).set mm1.toNatClampNeg (.int 1)).set mm1.toNatClampNeg (.int (-1)))))]) rfl rfl rfl
      refine A266.aload (q := 297) at_295 rfl rfl rfl ?_
      refine A266.iload (q := 299) at_297 rfl rfl ?_
      refine A266.iconst (q := 300) (v := 1) at_299 rfl rfl ?_
      have A267 := A266.pick (is := [0, 1, 3, 4, 2]) (os2 := [(b3, .inr (.int, [(.int mm0), (.int mm1), (.int mm2)])), (b1_65, .inr (.int, [(.int mm0), (.int mm1), (.int 0)])), (b106, ob0 (.ref b1_65) (.ref b2_65) (.int 1)), (b2_65, .inr (.int, (((([(.int (-1)), (.int (-1)), (.int (-1))].set mm0.toNatClampNeg (.int 0)).set mm1.toNatClampNeg (.int 1)).set mm1.toNatClampNeg (.int 1)).set mm1.toNatClampNeg (.int (-1))))), (b216, .inr (.int, [(.int mm0), (.int mm1), (.int mm2)]))]) (by decide) rfl
      refine Here.callS (qn := 303) (os1 := [(b3, .inr (.int, [(.int mm0), (.int mm1), (.int mm2)])), (b1_65, .inr (.int, [(.int mm0), (.int mm1), (.int 0)])), (b106, ob0 (.ref b1_65) (.ref b2_65) (.int 1)), (b2_65, .inr (.int, (((([(.int (-1)), (.int (-1)), (.int (-1))].set mm0.toNatClampNeg (.int 0)).set mm1.toNatClampNeg (.int 1)).set mm1.toNatClampNeg (.int 1)).set mm1.toNatClampNeg (.int (-1)))))]) (os2 := [(b216, .inr (.int, [(.int mm0), (.int mm1), (.int mm2)]))]) (rest := [(.int (own_val ((((([(.int (-1)), (.int (-1)), (.int (-1))].set mm0.toNatClampNeg (.int 0)).set mm1.toNatClampNeg (.int 1)).set mm1.toNatClampNeg (.int 1)).set mm1.toNatClampNeg (.int (-1)))[(1 : Int32).toNatClampNeg]?)))]) (W := 1) (argsL := [(.ref b216), (.int 1), (.int 1)]) A267 (m_exp1 l Z a0 hw b216 ((1 : Int32)) mm0 mm1 mm2) (Or.inr ⟨rfl, rfl⟩) (tw hw 41 rfl) (tw hw 42 rfl) (tw hw 43 rfl) (tw hw 44 rfl) (by decide) at_300 rfl (lenOf pd_7 rfl) rfl (Nat.le_of_eq rfl) (by decide) (by decide) (by decide) (by decide) rfl (fun T268 v269 os270 A271 P272 => ?_)
      obtain ⟨r_300, rfl, rfl, hq_300⟩ := P272
      have A273 := A271.cast (k2 := 5) (n2 := 15) (os2 := [(b3, .inr (.int, [(.int mm0), (.int mm1), (.int mm2)])), (b1_65, .inr (.int, [(.int mm0), (.int mm1), (.int 0)])), (b106, ob0 (.ref b1_65) (.ref b2_65) (.int 1)), (b2_65, .inr (.int, (((([(.int (-1)), (.int (-1)), (.int (-1))].set mm0.toNatClampNeg (.int 0)).set mm1.toNatClampNeg (.int 1)).set mm1.toNatClampNeg (.int 1)).set mm1.toNatClampNeg (.int (-1))))), (b216, .inr (.int, [(.int mm0), (.int mm1), (.int mm2)]))]) rfl rfl rfl
      have hc303_274 : (own_val ((((([(.int (-1)), (.int (-1)), (.int (-1))].set mm0.toNatClampNeg (.int 0)).set mm1.toNatClampNeg (.int 1)).set mm1.toNatClampNeg (.int 1)).set mm1.toNatClampNeg (.int (-1)))[(1 : Int32).toNatClampNeg]?)) = r_300 := by
        clear hw A0 A2 A4 A6 A7 A9 A10 A12 A13 A105 A107 A111 A113 A117 A119 A123 A125 A211 A213 A215 A217 A219 A220 A222 A223 A225 A226 A228 A229 A230 A234 A236 A237 A241 A243 A245 A249 A251 A252 A256 A258 A260 A264 A266 A267 A271 A273
        rcases hperm with ⟨rfl, rfl, rfl⟩ | ⟨rfl, rfl, rfl⟩ | ⟨rfl, rfl, rfl⟩ | ⟨rfl, rfl, rfl⟩ | ⟨rfl, rfl, rfl⟩ | ⟨rfl, rfl, rfl⟩ <;> rcases hq_300 with ⟨h, rfl⟩ | ⟨h, rfl⟩ <;> first | decide | (exfalso; revert h; decide)
      refine A273.icmpNo (q := 306) at_303 (teq hc303_274).2 rfl ?_
      refine A273.iconst (q := 307) (v := 1) at_306 rfl rfl ?_
      refine A273.goto (q := 311) at_307 (by decide) (by decide) ?_
      refine A273.istore (q := 313) (l' := #[.val (.int x0), .val (.int x1), .val (.int x2), .val (.int x3), .val (.int 2), .val (.int mm0), .val (.int ((1 : Int32) + (x2 &&& (1 : Int32)))), .val (.ref b3), .val (.ref b106), .val (.int 1), .val (.int mm1), .val (.ref b216), .val (.int 1), .val (.int 1)]) at_311 rfl rfl ?_
      refine A273.iload (q := 315) at_313 rfl rfl ?_
      refine A273.ifNo (q := 318) at_315 (by decide) rfl ?_
      refine A273.aload (q := 320) at_318 rfl rfl rfl ?_
      refine A273.iconst (q := 321) (v := 2) at_320 rfl rfl ?_
      have A275 := A273.pick (is := [0, 1, 4, 2, 3]) (os2 := [(b3, .inr (.int, [(.int mm0), (.int mm1), (.int mm2)])), (b1_65, .inr (.int, [(.int mm0), (.int mm1), (.int 0)])), (b216, .inr (.int, [(.int mm0), (.int mm1), (.int mm2)])), (b106, ob0 (.ref b1_65) (.ref b2_65) (.int 1)), (b2_65, .inr (.int, (((([(.int (-1)), (.int (-1)), (.int (-1))].set mm0.toNatClampNeg (.int 0)).set mm1.toNatClampNeg (.int 1)).set mm1.toNatClampNeg (.int 1)).set mm1.toNatClampNeg (.int (-1)))))]) (by decide) rfl
      refine Here.callV (qn := 324) (os1 := [(b3, .inr (.int, [(.int mm0), (.int mm1), (.int mm2)])), (b1_65, .inr (.int, [(.int mm0), (.int mm1), (.int 0)])), (b216, .inr (.int, [(.int mm0), (.int mm1), (.int mm2)]))]) (os2 := [(b106, ob0 (.ref b1_65) (.ref b2_65) (.int 1)), (b2_65, .inr (.int, (((([(.int (-1)), (.int (-1)), (.int (-1))].set mm0.toNatClampNeg (.int 0)).set mm1.toNatClampNeg (.int 1)).set mm1.toNatClampNeg (.int 1)).set mm1.toNatClampNeg (.int (-1)))))]) (rest := []) (W := 0) (argsL := [(.int 2)]) (a := b106) (i := 3) A275 (m_place2 l Z a0 hw b106 b1_65 b2_65 ((1 : Int32)) ((((([(.int (-1)), (.int (-1)), (.int (-1))].set mm0.toNatClampNeg (.int 0)).set mm1.toNatClampNeg (.int 1)).set mm1.toNatClampNeg (.int 1)).set mm1.toNatClampNeg (.int (-1)))) ((own_val ((((([(.int (-1)), (.int (-1)), (.int (-1))].set mm0.toNatClampNeg (.int 0)).set mm1.toNatClampNeg (.int 1)).set mm1.toNatClampNeg (.int 1)).set mm1.toNatClampNeg (.int (-1)))[(2 : Int32).toNatClampNeg]?))) (by rcases hperm with ⟨rfl, rfl, rfl⟩ | ⟨rfl, rfl, rfl⟩ | ⟨rfl, rfl, rfl⟩ | ⟨rfl, rfl, rfl⟩ | ⟨rfl, rfl, rfl⟩ | ⟨rfl, rfl, rfl⟩ <;> decide)) (Or.inr ⟨rfl, rfl⟩) rfl (tw hw 36 rfl) (tw hw 37 rfl) (tw hw 39 rfl) (tw hw 38 rfl) (tw hw 4 rfl) (tw hw 40 rfl) (by decide) at_321 rfl (lenOf pd_6 rfl) rfl (Nat.le_of_eq rfl) (by decide) (by decide) (by decide) (by decide) rfl (fun T276 v277 os278 A279 P280 => ?_)
      obtain ⟨rfl, rfl⟩ := P280
      have A281 := A279.cast (k2 := 5) (n2 := 15) (os2 := [(b3, .inr (.int, [(.int mm0), (.int mm1), (.int mm2)])), (b1_65, .inr (.int, [(.int mm0), (.int mm1), (.int 0)])), (b216, .inr (.int, [(.int mm0), (.int mm1), (.int mm2)])), (b106, ob0 (.ref b1_65) (.ref b2_65) (.int 1)), (b2_65, .inr (.int, (((([(.int (-1)), (.int (-1)), (.int (-1))].set mm0.toNatClampNeg (.int 0)).set mm1.toNatClampNeg (.int 1)).set mm1.toNatClampNeg (.int 1)).set mm1.toNatClampNeg (.int (-1)))))]) rfl rfl rfl
      refine A281.aload (q := 326) at_324 rfl rfl rfl ?_
      refine A281.iload (q := 328) at_326 rfl rfl ?_
      refine A281.iconst (q := 329) (v := 2) at_328 rfl rfl ?_
      have A282 := A281.pick (is := [0, 1, 3, 4, 2]) (os2 := [(b3, .inr (.int, [(.int mm0), (.int mm1), (.int mm2)])), (b1_65, .inr (.int, [(.int mm0), (.int mm1), (.int 0)])), (b106, ob0 (.ref b1_65) (.ref b2_65) (.int 1)), (b2_65, .inr (.int, (((([(.int (-1)), (.int (-1)), (.int (-1))].set mm0.toNatClampNeg (.int 0)).set mm1.toNatClampNeg (.int 1)).set mm1.toNatClampNeg (.int 1)).set mm1.toNatClampNeg (.int (-1))))), (b216, .inr (.int, [(.int mm0), (.int mm1), (.int mm2)]))]) (by decide) rfl
      refine Here.callS (qn := 332) (os1 := [(b3, .inr (.int, [(.int mm0), (.int mm1), (.int mm2)])), (b1_65, .inr (.int, [(.int mm0), (.int mm1), (.int 0)])), (b106, ob0 (.ref b1_65) (.ref b2_65) (.int 1)), (b2_65, .inr (.int, (((([(.int (-1)), (.int (-1)), (.int (-1))].set mm0.toNatClampNeg (.int 0)).set mm1.toNatClampNeg (.int 1)).set mm1.toNatClampNeg (.int 1)).set mm1.toNatClampNeg (.int (-1)))))]) (os2 := [(b216, .inr (.int, [(.int mm0), (.int mm1), (.int mm2)]))]) (rest := [(.int (own_val ((((([(.int (-1)), (.int (-1)), (.int (-1))].set mm0.toNatClampNeg (.int 0)).set mm1.toNatClampNeg (.int 1)).set mm1.toNatClampNeg (.int 1)).set mm1.toNatClampNeg (.int (-1)))[(2 : Int32).toNatClampNeg]?)))]) (W := 1) (argsL := [(.ref b216), (.int 1), (.int 2)]) A282 (m_exp1 l Z a0 hw b216 ((2 : Int32)) mm0 mm1 mm2) (Or.inr ⟨rfl, rfl⟩) (tw hw 41 rfl) (tw hw 42 rfl) (tw hw 43 rfl) (tw hw 44 rfl) (by decide) at_329 rfl (lenOf pd_7 rfl) rfl (Nat.le_of_eq rfl) (by decide) (by decide) (by decide) (by decide) rfl (fun T283 v284 os285 A286 P287 => ?_)
      obtain ⟨r_329, rfl, rfl, hq_329⟩ := P287
      have A288 := A286.cast (k2 := 5) (n2 := 15) (os2 := [(b3, .inr (.int, [(.int mm0), (.int mm1), (.int mm2)])), (b1_65, .inr (.int, [(.int mm0), (.int mm1), (.int 0)])), (b106, ob0 (.ref b1_65) (.ref b2_65) (.int 1)), (b2_65, .inr (.int, (((([(.int (-1)), (.int (-1)), (.int (-1))].set mm0.toNatClampNeg (.int 0)).set mm1.toNatClampNeg (.int 1)).set mm1.toNatClampNeg (.int 1)).set mm1.toNatClampNeg (.int (-1))))), (b216, .inr (.int, [(.int mm0), (.int mm1), (.int mm2)]))]) rfl rfl rfl
      have hc332_289 : (own_val ((((([(.int (-1)), (.int (-1)), (.int (-1))].set mm0.toNatClampNeg (.int 0)).set mm1.toNatClampNeg (.int 1)).set mm1.toNatClampNeg (.int 1)).set mm1.toNatClampNeg (.int (-1)))[(2 : Int32).toNatClampNeg]?)) = r_329 := by
        clear hw A0 A2 A4 A6 A7 A9 A10 A12 A13 A105 A107 A111 A113 A117 A119 A123 A125 A211 A213 A215 A217 A219 A220 A222 A223 A225 A226 A228 A229 A230 A234 A236 A237 A241 A243 A245 A249 A251 A252 A256 A258 A260 A264 A266 A267 A271 A273 A275 A279 A281 A282 A286 A288
        rcases hperm with ⟨rfl, rfl, rfl⟩ | ⟨rfl, rfl, rfl⟩ | ⟨rfl, rfl, rfl⟩ | ⟨rfl, rfl, rfl⟩ | ⟨rfl, rfl, rfl⟩ | ⟨rfl, rfl, rfl⟩ <;> rcases hq_329 with ⟨h, rfl⟩ | ⟨h, rfl⟩ <;> first | decide | (exfalso; revert h; decide)
      refine A288.icmpNo (q := 335) at_332 (teq hc332_289).2 rfl ?_
      refine A288.iconst (q := 336) (v := 1) at_335 rfl rfl ?_
      refine A288.goto (q := 340) at_336 (by decide) (by decide) ?_
      refine A288.istore (q := 342) (l' := #[.val (.int x0), .val (.int x1), .val (.int x2), .val (.int x3), .val (.int 2), .val (.int mm0), .val (.int ((1 : Int32) + (x2 &&& (1 : Int32)))), .val (.ref b3), .val (.ref b106), .val (.int 1), .val (.int mm1), .val (.ref b216), .val (.int 1), .val (.int 1)]) at_340 rfl rfl ?_
      refine A288.iload (q := 344) at_342 rfl rfl ?_
      exact A288.retN (by simp) at_344 (by decide) (by decide) ⟨rfl, trivial⟩
  · rw [hk]
    show Wp _ _ _ _ _ _ _ _ _ _ T11 (mkF m 60 #[.val (.int x0), .val (.int x1), .val (.int x2), .val (.int x3), .val (.int 3), .val (.int mm0), .val (.int ((1 : Int32) + (x2 &&& (1 : Int32)))), .val (.ref b3), .unset, .unset, .unset, .unset, .unset, .unset] [])
    refine A13.newO (qn := 63) (C := "com/example/heirring/heirring/IndexedIntSet") (fs := [("com/example/heirring/heirring/IndexedIntSet", "members", "[I", .null), ("com/example/heirring/heirring/IndexedIntSet", "places", "[I", .null), ("com/example/heirring/heirring/IndexedIntSet", "size", "I", (.int 0))]) (tw hw 2 rfl) (tw hw 3 rfl) (tw hw 4 rfl) at_60 (by decide) (by decide) (by decide) (List.forall_mem_cons.mpr ⟨⟨Or.inr (tw hw 12 rfl), (.array .int), by decide, rfl⟩, (List.forall_mem_cons.mpr ⟨⟨Or.inr (tw hw 14 rfl), (.array .int), by decide, rfl⟩, (List.forall_mem_cons.mpr ⟨⟨Or.inl (tw hw 25 rfl), .int, by decide, rfl⟩, (List.forall_mem_nil _)⟩)⟩)⟩) rfl (fun T290 b292 A291 => ?_)
    have A293 := A291.cast (k2 := 2) (n2 := 6) (os2 := [(b3, .inr (.int, [(.int mm0), (.int mm1), (.int mm2)])), (b292, ob0 .null .null (.int 0))]) rfl rfl rfl
    refine A293.dup (q := 64) at_63 rfl rfl ?_
    refine A293.iconst (q := 65) (v := 3) at_64 rfl rfl ?_
    refine Here.callI (qn := 68) (os1 := [(b3, .inr (.int, [(.int mm0), (.int mm1), (.int mm2)]))]) (os2 := [(b292, ob0 .null .null (.int 0))]) (rest := [(.ref b292)]) (W := 1) (argsL := [(.int 3)]) (a := b292) A293 (m_ini l Z a0 hw b292) (Or.inr ⟨rfl, rfl⟩) rfl (tw hw 5 rfl) (tw hw 6 rfl) (tw hw 4 rfl) (tw hw 7 rfl) (by decide) at_65 rfl (lenOf pd_4 rfl) rfl (Nat.le_of_eq rfl) (by decide) (by decide) (by decide) (by decide) rfl (fun T294 v295 os296 A297 P298 => ?_)
    obtain ⟨b1_65, b2_65, rfl, rfl⟩ := P298
    have A299 := A297.cast (k2 := 4) (n2 := 12) (os2 := [(b3, .inr (.int, [(.int mm0), (.int mm1), (.int mm2)])), (b292, ob0 (.ref b1_65) (.ref b2_65) (.int 0)), (b1_65, .inr (.int, [(.int 0), (.int 0), (.int 0)])), (b2_65, .inr (.int, [(.int (-1)), (.int (-1)), (.int (-1))]))]) rfl rfl rfl
    refine A299.astore (q := 70) (l' := #[.val (.int x0), .val (.int x1), .val (.int x2), .val (.int x3), .val (.int 3), .val (.int mm0), .val (.int ((1 : Int32) + (x2 &&& (1 : Int32)))), .val (.ref b3), .val (.ref b292), .unset, .unset, .unset, .unset, .unset]) at_68 rfl rfl rfl ?_
    refine A299.aload (q := 72) at_70 rfl rfl rfl ?_
    refine A299.aload (q := 74) at_72 rfl rfl rfl ?_
    refine A299.iconst (q := 75) (v := 0) at_74 rfl rfl ?_
    refine A299.ldI (qn := 76) (i := 0) at_75 rfl (by decide) rfl rfl ?_
    refine Here.callV (qn := 79) (os1 := [(b3, .inr (.int, [(.int mm0), (.int mm1), (.int mm2)]))]) (os2 := [(b292, ob0 (.ref b1_65) (.ref b2_65) (.int 0)), (b1_65, .inr (.int, [(.int 0), (.int 0), (.int 0)])), (b2_65, .inr (.int, [(.int (-1)), (.int (-1)), (.int (-1))]))]) (rest := []) (W := 0) (argsL := [(.int mm0)]) (a := b292) (i := 1) A299 (m_add0 l Z a0 hw b292 b1_65 b2_65 mm0 ((0 : Int32)) ((0 : Int32)) ((0 : Int32)) ([(.int (-1)), (.int (-1)), (.int (-1))]) (by rcases hperm with ⟨rfl, rfl, rfl⟩ | ⟨rfl, rfl, rfl⟩ | ⟨rfl, rfl, rfl⟩ | ⟨rfl, rfl, rfl⟩ | ⟨rfl, rfl, rfl⟩ | ⟨rfl, rfl, rfl⟩ <;> decide) (by rcases hperm with ⟨rfl, rfl, rfl⟩ | ⟨rfl, rfl, rfl⟩ | ⟨rfl, rfl, rfl⟩ | ⟨rfl, rfl, rfl⟩ | ⟨rfl, rfl, rfl⟩ | ⟨rfl, rfl, rfl⟩ <;> decide)) (Or.inr ⟨rfl, rfl⟩) rfl (tw hw 19 rfl) (tw hw 20 rfl) (tw hw 22 rfl) (tw hw 21 rfl) (tw hw 4 rfl) (tw hw 23 rfl) (by decide) at_76 rfl (lenOf pd_4 rfl) rfl (Nat.le_of_eq rfl) (by decide) (by decide) (by decide) (by decide) rfl (fun T300 v301 os302 A303 P304 => ?_)
    obtain ⟨rfl, rfl⟩ := P304
    have A305 := A303.cast (k2 := 4) (n2 := 12) (os2 := [(b3, .inr (.int, [(.int mm0), (.int mm1), (.int mm2)])), (b292, ob0 (.ref b1_65) (.ref b2_65) (.int 1)), (b1_65, .inr (.int, [(.int mm0), (.int 0), (.int 0)])), (b2_65, .inr (.int, ([(.int (-1)), (.int (-1)), (.int (-1))].set mm0.toNatClampNeg (.int 0))))]) rfl rfl rfl
    refine A305.iload (q := 81) at_79 rfl rfl ?_
    refine A305.iconst (q := 82) (v := 2) at_81 rfl rfl ?_
    refine A305.icmpNo (q := 85) at_82 (by decide) rfl ?_
    refine A305.aload (q := 87) at_85 rfl rfl rfl ?_
    refine A305.aload (q := 89) at_87 rfl rfl rfl ?_
    refine A305.iconst (q := 90) (v := 1) at_89 rfl rfl ?_
    refine A305.ldI (qn := 91) (i := 0) at_90 rfl (by decide) rfl rfl ?_
    refine Here.callV (qn := 94) (os1 := [(b3, .inr (.int, [(.int mm0), (.int mm1), (.int mm2)]))]) (os2 := [(b292, ob0 (.ref b1_65) (.ref b2_65) (.int 1)), (b1_65, .inr (.int, [(.int mm0), (.int 0), (.int 0)])), (b2_65, .inr (.int, ([(.int (-1)), (.int (-1)), (.int (-1))].set mm0.toNatClampNeg (.int 0))))]) (rest := []) (W := 0) (argsL := [(.int mm1)]) (a := b292) (i := 1) A305 (m_add1 l Z a0 hw b292 b1_65 b2_65 mm1 mm0 ((0 : Int32)) ((0 : Int32)) (([(.int (-1)), (.int (-1)), (.int (-1))].set mm0.toNatClampNeg (.int 0))) (by rcases hperm with ⟨rfl, rfl, rfl⟩ | ⟨rfl, rfl, rfl⟩ | ⟨rfl, rfl, rfl⟩ | ⟨rfl, rfl, rfl⟩ | ⟨rfl, rfl, rfl⟩ | ⟨rfl, rfl, rfl⟩ <;> decide) (by rcases hperm with ⟨rfl, rfl, rfl⟩ | ⟨rfl, rfl, rfl⟩ | ⟨rfl, rfl, rfl⟩ | ⟨rfl, rfl, rfl⟩ | ⟨rfl, rfl, rfl⟩ | ⟨rfl, rfl, rfl⟩ <;> decide)) (Or.inr ⟨rfl, rfl⟩) rfl (tw hw 19 rfl) (tw hw 20 rfl) (tw hw 22 rfl) (tw hw 21 rfl) (tw hw 4 rfl) (tw hw 23 rfl) (by decide) at_91 rfl (lenOf pd_4 rfl) rfl (Nat.le_of_eq rfl) (by decide) (by decide) (by decide) (by decide) rfl (fun T306 v307 os308 A309 P310 => ?_)
    obtain ⟨rfl, rfl⟩ := P310
    have A311 := A309.cast (k2 := 4) (n2 := 12) (os2 := [(b3, .inr (.int, [(.int mm0), (.int mm1), (.int mm2)])), (b292, ob0 (.ref b1_65) (.ref b2_65) (.int 2)), (b1_65, .inr (.int, [(.int mm0), (.int mm1), (.int 0)])), (b2_65, .inr (.int, (([(.int (-1)), (.int (-1)), (.int (-1))].set mm0.toNatClampNeg (.int 0)).set mm1.toNatClampNeg (.int 1))))]) rfl rfl rfl
    refine A311.iload (q := 96) at_94 rfl rfl ?_
    refine A311.iconst (q := 97) (v := 3) at_96 rfl rfl ?_
    refine A311.icmpNo (q := 100) at_97 (by decide) rfl ?_
    refine A311.aload (q := 102) at_100 rfl rfl rfl ?_
    refine A311.aload (q := 104) at_102 rfl rfl rfl ?_
    refine A311.iconst (q := 105) (v := 2) at_104 rfl rfl ?_
    refine A311.ldI (qn := 106) (i := 0) at_105 rfl (by decide) rfl rfl ?_
    refine Here.callV (qn := 109) (os1 := [(b3, .inr (.int, [(.int mm0), (.int mm1), (.int mm2)]))]) (os2 := [(b292, ob0 (.ref b1_65) (.ref b2_65) (.int 2)), (b1_65, .inr (.int, [(.int mm0), (.int mm1), (.int 0)])), (b2_65, .inr (.int, (([(.int (-1)), (.int (-1)), (.int (-1))].set mm0.toNatClampNeg (.int 0)).set mm1.toNatClampNeg (.int 1))))]) (rest := []) (W := 0) (argsL := [(.int mm2)]) (a := b292) (i := 1) A311 (m_add2 l Z a0 hw b292 b1_65 b2_65 mm2 mm0 mm1 ((0 : Int32)) ((([(.int (-1)), (.int (-1)), (.int (-1))].set mm0.toNatClampNeg (.int 0)).set mm1.toNatClampNeg (.int 1))) (by rcases hperm with ⟨rfl, rfl, rfl⟩ | ⟨rfl, rfl, rfl⟩ | ⟨rfl, rfl, rfl⟩ | ⟨rfl, rfl, rfl⟩ | ⟨rfl, rfl, rfl⟩ | ⟨rfl, rfl, rfl⟩ <;> decide) (by rcases hperm with ⟨rfl, rfl, rfl⟩ | ⟨rfl, rfl, rfl⟩ | ⟨rfl, rfl, rfl⟩ | ⟨rfl, rfl, rfl⟩ | ⟨rfl, rfl, rfl⟩ | ⟨rfl, rfl, rfl⟩ <;> decide)) (Or.inr ⟨rfl, rfl⟩) rfl (tw hw 19 rfl) (tw hw 20 rfl) (tw hw 22 rfl) (tw hw 21 rfl) (tw hw 4 rfl) (tw hw 23 rfl) (by decide) at_106 rfl (lenOf pd_4 rfl) rfl (Nat.le_of_eq rfl) (by decide) (by decide) (by decide) (by decide) rfl (fun T312 v313 os314 A315 P316 => ?_)
    obtain ⟨rfl, rfl⟩ := P316
    have A317 := A315.cast (k2 := 4) (n2 := 12) (os2 := [(b3, .inr (.int, [(.int mm0), (.int mm1), (.int mm2)])), (b292, ob0 (.ref b1_65) (.ref b2_65) (.int 3)), (b1_65, .inr (.int, [(.int mm0), (.int mm1), (.int mm2)])), (b2_65, .inr (.int, ((([(.int (-1)), (.int (-1)), (.int (-1))].set mm0.toNatClampNeg (.int 0)).set mm1.toNatClampNeg (.int 1)).set mm2.toNatClampNeg (.int 2))))]) rfl rfl rfl
    refine A317.iloadN (q := 110) at_109 rfl rfl ?_
    refine A317.ldc (qn := 112) (v := 2147483647) (tw hw 0 rfl) at_110 rfl ?_
    refine A317.iand (q := 113) at_112 rfl ?_
    refine A317.iload (q := 115) at_113 rfl rfl ?_
    refine A317.irem (qn := 116) at_115 (by decide) rfl ?_
    rcases own_r3 x3 with ht | ht | ht
    · rw [ht]
      show Wp _ _ _ _ _ _ _ _ _ _ T312 (mkF m 116 #[.val (.int x0), .val (.int x1), .val (.int x2), .val (.int x3), .val (.int 3), .val (.int mm0), .val (.int ((1 : Int32) + (x2 &&& (1 : Int32)))), .val (.ref b3), .val (.ref b292), .unset, .unset, .unset, .unset, .unset] [(.int 0)])
      refine A317.istore (q := 118) (l' := #[.val (.int x0), .val (.int x1), .val (.int x2), .val (.int x3), .val (.int 3), .val (.int mm0), .val (.int ((1 : Int32) + (x2 &&& (1 : Int32)))), .val (.ref b3), .val (.ref b292), .val (.int 0), .unset, .unset, .unset, .unset]) at_116 rfl rfl ?_
      refine A317.aload (q := 120) at_118 rfl rfl rfl ?_
      refine A317.iload (q := 122) at_120 rfl rfl ?_
      refine A317.ldI (qn := 123) (i := 0) at_122 rfl (by decide) rfl rfl ?_
      refine A317.istore (q := 125) (l' := #[.val (.int x0), .val (.int x1), .val (.int x2), .val (.int x3), .val (.int 3), .val (.int mm0), .val (.int ((1 : Int32) + (x2 &&& (1 : Int32)))), .val (.ref b3), .val (.ref b292), .val (.int 0), .val (.int mm0), .unset, .unset, .unset]) at_123 rfl rfl ?_
      refine A317.aload (q := 127) at_125 rfl rfl rfl ?_
      refine A317.iload (q := 129) at_127 rfl rfl ?_
      refine Here.callV (qn := 132) (os1 := [(b3, .inr (.int, [(.int mm0), (.int mm1), (.int mm2)]))]) (os2 := [(b292, ob0 (.ref b1_65) (.ref b2_65) (.int 3)), (b1_65, .inr (.int, [(.int mm0), (.int mm1), (.int mm2)])), (b2_65, .inr (.int, ((([(.int (-1)), (.int (-1)), (.int (-1))].set mm0.toNatClampNeg (.int 0)).set mm1.toNatClampNeg (.int 1)).set mm2.toNatClampNeg (.int 2))))]) (rest := []) (W := 0) (argsL := [(.int mm0)]) (a := b292) (i := 1) A317 (m_rem30 l Z a0 hw b292 b1_65 b2_65 mm0 mm0 mm1 mm2 (((([(.int (-1)), (.int (-1)), (.int (-1))].set mm0.toNatClampNeg (.int 0)).set mm1.toNatClampNeg (.int 1)).set mm2.toNatClampNeg (.int 2))) (by rcases hperm with ⟨rfl, rfl, rfl⟩ | ⟨rfl, rfl, rfl⟩ | ⟨rfl, rfl, rfl⟩ | ⟨rfl, rfl, rfl⟩ | ⟨rfl, rfl, rfl⟩ | ⟨rfl, rfl, rfl⟩ <;> decide) (by rcases hperm with ⟨rfl, rfl, rfl⟩ | ⟨rfl, rfl, rfl⟩ | ⟨rfl, rfl, rfl⟩ | ⟨rfl, rfl, rfl⟩ | ⟨rfl, rfl, rfl⟩ | ⟨rfl, rfl, rfl⟩ <;> decide) (by rcases hperm with ⟨rfl, rfl, rfl⟩ | ⟨rfl, rfl, rfl⟩ | ⟨rfl, rfl, rfl⟩ | ⟨rfl, rfl, rfl⟩ | ⟨rfl, rfl, rfl⟩ | ⟨rfl, rfl, rfl⟩ <;> decide) (by rcases hperm with ⟨rfl, rfl, rfl⟩ | ⟨rfl, rfl, rfl⟩ | ⟨rfl, rfl, rfl⟩ | ⟨rfl, rfl, rfl⟩ | ⟨rfl, rfl, rfl⟩ | ⟨rfl, rfl, rfl⟩ <;> decide) (by rcases hperm with ⟨rfl, rfl, rfl⟩ | ⟨rfl, rfl, rfl⟩ | ⟨rfl, rfl, rfl⟩ | ⟨rfl, rfl, rfl⟩ | ⟨rfl, rfl, rfl⟩ | ⟨rfl, rfl, rfl⟩ <;> decide)) (Or.inr ⟨rfl, rfl⟩) rfl (tw hw 26 rfl) (tw hw 27 rfl) (tw hw 29 rfl) (tw hw 28 rfl) (tw hw 4 rfl) (tw hw 30 rfl) (by decide) at_129 rfl (lenOf pd_4 rfl) rfl (Nat.le_of_eq rfl) (by decide) (by decide) (by decide) (by decide) rfl (fun T318 v319 os320 A321 P322 => ?_)
      obtain ⟨rfl, rfl⟩ := P322
      have A323 := A321.cast (k2 := 4) (n2 := 12) (os2 := [(b3, .inr (.int, [(.int mm0), (.int mm1), (.int mm2)])), (b292, ob0 (.ref b1_65) (.ref b2_65) (.int 2)), (b1_65, .inr (.int, [(.int mm2), (.int mm1), (.int mm2)])), (b2_65, .inr (.int, ((((([(.int (-1)), (.int (-1)), (.int (-1))].set mm0.toNatClampNeg (.int 0)).set mm1.toNatClampNeg (.int 1)).set mm2.toNatClampNeg (.int 2)).set mm2.toNatClampNeg (.int 0)).set mm0.toNatClampNeg (.int (-1)))))]) rfl rfl rfl
      refine A323.iconst (q := 133) (v := 3) at_132 rfl rfl ?_
      refine A323.newP (qn := 135) (cap := 3) (tw hw 1 rfl) at_133 (by decide) (by decide) (by decide) (by decide) (by decide) rfl (fun T324 b326 A325 => ?_)
      have A327 := A325.cast (k2 := 5) (n2 := 15) (os2 := [(b3, .inr (.int, [(.int mm0), (.int mm1), (.int mm2)])), (b292, ob0 (.ref b1_65) (.ref b2_65) (.int 2)), (b1_65, .inr (.int, [(.int mm2), (.int mm1), (.int mm2)])), (b2_65, .inr (.int, ((((([(.int (-1)), (.int (-1)), (.int (-1))].set mm0.toNatClampNeg (.int 0)).set mm1.toNatClampNeg (.int 1)).set mm2.toNatClampNeg (.int 2)).set mm2.toNatClampNeg (.int 0)).set mm0.toNatClampNeg (.int (-1))))), (b326, .inr (.int, [(.int 0), (.int 0), (.int 0)]))]) rfl rfl rfl
      refine A327.astore (q := 137) (l' := #[.val (.int x0), .val (.int x1), .val (.int x2), .val (.int x3), .val (.int 3), .val (.int mm0), .val (.int ((1 : Int32) + (x2 &&& (1 : Int32)))), .val (.ref b3), .val (.ref b292), .val (.int 0), .val (.int mm0), .val (.ref b326), .unset, .unset]) at_135 rfl rfl rfl ?_
      refine A327.aload (q := 139) at_137 rfl rfl rfl ?_
      refine A327.iconst (q := 140) (v := 0) at_139 rfl rfl ?_
      refine A327.aload (q := 142) at_140 rfl rfl rfl ?_
      refine A327.iconst (q := 143) (v := 0) at_142 rfl rfl ?_
      refine A327.ldI (qn := 144) (i := 0) at_143 rfl (by decide) rfl rfl ?_
      refine A327.stI (qn := 145) (i := 4) at_144 rfl (by decide) (show (0 : Int32).toNatClampNeg < 3 from by decide) rfl rfl (fun T328 A329 => ?_)
      have A330 := A329.cast (k2 := 5) (n2 := 15) (os2 := [(b3, .inr (.int, [(.int mm0), (.int mm1), (.int mm2)])), (b292, ob0 (.ref b1_65) (.ref b2_65) (.int 2)), (b1_65, .inr (.int, [(.int mm2), (.int mm1), (.int mm2)])), (b2_65, .inr (.int, ((((([(.int (-1)), (.int (-1)), (.int (-1))].set mm0.toNatClampNeg (.int 0)).set mm1.toNatClampNeg (.int 1)).set mm2.toNatClampNeg (.int 2)).set mm2.toNatClampNeg (.int 0)).set mm0.toNatClampNeg (.int (-1))))), (b326, .inr (.int, [(.int mm0), (.int 0), (.int 0)]))]) rfl rfl rfl
      refine A330.aload (q := 147) at_145 rfl rfl rfl ?_
      refine A330.iconst (q := 148) (v := 1) at_147 rfl rfl ?_
      refine A330.aload (q := 150) at_148 rfl rfl rfl ?_
      refine A330.iconst (q := 151) (v := 1) at_150 rfl rfl ?_
      refine A330.ldI (qn := 152) (i := 0) at_151 rfl (by decide) rfl rfl ?_
      refine A330.stI (qn := 153) (i := 4) at_152 rfl (by decide) (show (1 : Int32).toNatClampNeg < 3 from by decide) rfl rfl (fun T331 A332 => ?_)
      have A333 := A332.cast (k2 := 5) (n2 := 15) (os2 := [(b3, .inr (.int, [(.int mm0), (.int mm1), (.int mm2)])), (b292, ob0 (.ref b1_65) (.ref b2_65) (.int 2)), (b1_65, .inr (.int, [(.int mm2), (.int mm1), (.int mm2)])), (b2_65, .inr (.int, ((((([(.int (-1)), (.int (-1)), (.int (-1))].set mm0.toNatClampNeg (.int 0)).set mm1.toNatClampNeg (.int 1)).set mm2.toNatClampNeg (.int 2)).set mm2.toNatClampNeg (.int 0)).set mm0.toNatClampNeg (.int (-1))))), (b326, .inr (.int, [(.int mm0), (.int mm1), (.int 0)]))]) rfl rfl rfl
      refine A333.aload (q := 155) at_153 rfl rfl rfl ?_
      refine A333.iconst (q := 156) (v := 2) at_155 rfl rfl ?_
      refine A333.aload (q := 158) at_156 rfl rfl rfl ?_
      refine A333.iconst (q := 159) (v := 2) at_158 rfl rfl ?_
      refine A333.ldI (qn := 160) (i := 0) at_159 rfl (by decide) rfl rfl ?_
      refine A333.stI (qn := 161) (i := 4) at_160 rfl (by decide) (show (2 : Int32).toNatClampNeg < 3 from by decide) rfl rfl (fun T334 A335 => ?_)
      have A336 := A335.cast (k2 := 5) (n2 := 15) (os2 := [(b3, .inr (.int, [(.int mm0), (.int mm1), (.int mm2)])), (b292, ob0 (.ref b1_65) (.ref b2_65) (.int 2)), (b1_65, .inr (.int, [(.int mm2), (.int mm1), (.int mm2)])), (b2_65, .inr (.int, ((((([(.int (-1)), (.int (-1)), (.int (-1))].set mm0.toNatClampNeg (.int 0)).set mm1.toNatClampNeg (.int 1)).set mm2.toNatClampNeg (.int 2)).set mm2.toNatClampNeg (.int 0)).set mm0.toNatClampNeg (.int (-1))))), (b326, .inr (.int, [(.int mm0), (.int mm1), (.int mm2)]))]) rfl rfl rfl
      refine A336.iload (q := 163) at_161 rfl rfl ?_
      refine A336.iconst (q := 164) (v := 1) at_163 rfl rfl ?_
      refine A336.isub (q := 165) at_164 rfl ?_
      refine Wp.top (v' := (.int 2)) rfl ?_
      refine A336.istore (q := 167) (l' := #[.val (.int x0), .val (.int x1), .val (.int x2), .val (.int x3), .val (.int 3), .val (.int mm0), .val (.int ((1 : Int32) + (x2 &&& (1 : Int32)))), .val (.ref b3), .val (.ref b292), .val (.int 0), .val (.int mm0), .val (.ref b326), .val (.int 2), .unset]) at_165 rfl rfl ?_
      refine A336.aload (q := 169) at_167 rfl rfl rfl ?_
      refine A336.iload (q := 171) at_169 rfl rfl ?_
      refine A336.aload (q := 173) at_171 rfl rfl rfl ?_
      refine A336.iload (q := 175) at_173 rfl rfl ?_
      refine A336.ldI (qn := 176) (i := 0) at_175 rfl (by decide) rfl rfl ?_
      refine A336.stI (qn := 177) (i := 4) at_176 rfl (by decide) (show (0 : Int32).toNatClampNeg < 3 from by decide) rfl rfl (fun T337 A338 => ?_)
      have A339 := A338.cast (k2 := 5) (n2 := 15) (os2 := [(b3, .inr (.int, [(.int mm0), (.int mm1), (.int mm2)])), (b292, ob0 (.ref b1_65) (.ref b2_65) (.int 2)), (b1_65, .inr (.int, [(.int mm2), (.int mm1), (.int mm2)])), (b2_65, .inr (.int, ((((([(.int (-1)), (.int (-1)), (.int (-1))].set mm0.toNatClampNeg (.int 0)).set mm1.toNatClampNeg (.int 1)).set mm2.toNatClampNeg (.int 2)).set mm2.toNatClampNeg (.int 0)).set mm0.toNatClampNeg (.int (-1))))), (b326, .inr (.int, [(.int mm2), (.int mm1), (.int mm2)]))]) rfl rfl rfl
      refine A339.aload (q := 179) at_177 rfl rfl rfl ?_
      have A340 := A339.pick (is := [0, 2, 3, 4, 1]) (os2 := [(b3, .inr (.int, [(.int mm0), (.int mm1), (.int mm2)])), (b1_65, .inr (.int, [(.int mm2), (.int mm1), (.int mm2)])), (b2_65, .inr (.int, ((((([(.int (-1)), (.int (-1)), (.int (-1))].set mm0.toNatClampNeg (.int 0)).set mm1.toNatClampNeg (.int 1)).set mm2.toNatClampNeg (.int 2)).set mm2.toNatClampNeg (.int 0)).set mm0.toNatClampNeg (.int (-1))))), (b326, .inr (.int, [(.int mm2), (.int mm1), (.int mm2)])), (b292, ob0 (.ref b1_65) (.ref b2_65) (.int 2))]) (by decide) rfl
      refine Here.callV (qn := 182) (os1 := [(b3, .inr (.int, [(.int mm0), (.int mm1), (.int mm2)])), (b1_65, .inr (.int, [(.int mm2), (.int mm1), (.int mm2)])), (b2_65, .inr (.int, ((((([(.int (-1)), (.int (-1)), (.int (-1))].set mm0.toNatClampNeg (.int 0)).set mm1.toNatClampNeg (.int 1)).set mm2.toNatClampNeg (.int 2)).set mm2.toNatClampNeg (.int 0)).set mm0.toNatClampNeg (.int (-1))))), (b326, .inr (.int, [(.int mm2), (.int mm1), (.int mm2)]))]) (os2 := [(b292, ob0 (.ref b1_65) (.ref b2_65) (.int 2))]) (rest := []) (W := 0) (argsL := []) (a := b292) (i := 4) A340 (m_size l Z a0 hw b292 b1_65 b2_65 ((2 : Int32))) (Or.inr ⟨rfl, rfl⟩) rfl (tw hw 31 rfl) (tw hw 32 rfl) (tw hw 34 rfl) (tw hw 33 rfl) (tw hw 4 rfl) (tw hw 35 rfl) (by decide) at_179 rfl (lenOf pd_5 rfl) rfl (Nat.le_of_eq rfl) (by decide) (by decide) (by decide) (by decide) rfl (fun T341 v342 os343 A344 P345 => ?_)
      obtain ⟨rfl, rfl⟩ := P345
      have A346 := A344.cast (k2 := 5) (n2 := 15) (os2 := [(b3, .inr (.int, [(.int mm0), (.int mm1), (.int mm2)])), (b1_65, .inr (.int, [(.int mm2), (.int mm1), (.int mm2)])), (b2_65, .inr (.int, ((((([(.int (-1)), (.int (-1)), (.int (-1))].set mm0.toNatClampNeg (.int 0)).set mm1.toNatClampNeg (.int 1)).set mm2.toNatClampNeg (.int 2)).set mm2.toNatClampNeg (.int 0)).set mm0.toNatClampNeg (.int (-1))))), (b326, .inr (.int, [(.int mm2), (.int mm1), (.int mm2)])), (b292, ob0 (.ref b1_65) (.ref b2_65) (.int 2))]) rfl rfl rfl
      refine A346.iload (q := 184) at_182 rfl rfl ?_
      refine A346.icmpNo (q := 187) at_184 (by decide) rfl ?_
      refine A346.iconst (q := 188) (v := 1) at_187 rfl rfl ?_
      refine A346.goto (q := 192) at_188 (by decide) (by decide) ?_
      refine A346.istore (q := 194) (l' := #[.val (.int x0), .val (.int x1), .val (.int x2), .val (.int x3), .val (.int 3), .val (.int mm0), .val (.int ((1 : Int32) + (x2 &&& (1 : Int32)))), .val (.ref b3), .val (.ref b292), .val (.int 0), .val (.int mm0), .val (.ref b326), .val (.int 2), .val (.int 1)]) at_192 rfl rfl ?_
      refine A346.iload (q := 196) at_194 rfl rfl ?_
      refine A346.ifNo (q := 199) at_196 (by decide) rfl ?_
      refine A346.iload (q := 201) at_199 rfl rfl ?_
      refine A346.ifNo (q := 204) at_201 (by decide) rfl ?_
      refine A346.aload (q := 206) at_204 rfl rfl rfl ?_
      refine A346.iconst (q := 207) (v := 0) at_206 rfl rfl ?_
      have A347 := A346.pick (is := [0, 2, 3, 4, 1]) (os2 := [(b3, .inr (.int, [(.int mm0), (.int mm1), (.int mm2)])), (b2_65, .inr (.int, ((((([(.int (-1)), (.int (-1)), (.int (-1))].set mm0.toNatClampNeg (.int 0)).set mm1.toNatClampNeg (.int 1)).set mm2.toNatClampNeg (.int 2)).set mm2.toNatClampNeg (.int 0)).set mm0.toNatClampNeg (.int (-1))))), (b326, .inr (.int, [(.int mm2), (.int mm1), (.int mm2)])), (b292, ob0 (.ref b1_65) (.ref b2_65) (.int 2)), (b1_65, .inr (.int, [(.int mm2), (.int mm1), (.int mm2)]))]) (by decide) rfl
      refine Here.callV (qn := 210) (os1 := [(b3, .inr (.int, [(.int mm0), (.int mm1), (.int mm2)])), (b2_65, .inr (.int, ((((([(.int (-1)), (.int (-1)), (.int (-1))].set mm0.toNatClampNeg (.int 0)).set mm1.toNatClampNeg (.int 1)).set mm2.toNatClampNeg (.int 2)).set mm2.toNatClampNeg (.int 0)).set mm0.toNatClampNeg (.int (-1))))), (b326, .inr (.int, [(.int mm2), (.int mm1), (.int mm2)]))]) (os2 := [(b292, ob0 (.ref b1_65) (.ref b2_65) (.int 2)), (b1_65, .inr (.int, [(.int mm2), (.int mm1), (.int mm2)]))]) (rest := []) (W := 0) (argsL := [(.int 0)]) (a := b292) (i := 3) A347 (m_get0 l Z a0 hw b292 b1_65 b2_65 ((2 : Int32)) mm2 mm1 mm2) (Or.inr ⟨rfl, rfl⟩) rfl (tw hw 45 rfl) (tw hw 46 rfl) (tw hw 48 rfl) (tw hw 47 rfl) (tw hw 4 rfl) (tw hw 49 rfl) (by decide) at_207 rfl (lenOf pd_6 rfl) rfl (Nat.le_of_eq rfl) (by decide) (by decide) (by decide) (by decide) rfl (fun T348 v349 os350 A351 P352 => ?_)
      obtain ⟨rfl, rfl⟩ := P352
      have A353 := A351.cast (k2 := 5) (n2 := 15) (os2 := [(b3, .inr (.int, [(.int mm0), (.int mm1), (.int mm2)])), (b2_65, .inr (.int, ((((([(.int (-1)), (.int (-1)), (.int (-1))].set mm0.toNatClampNeg (.int 0)).set mm1.toNatClampNeg (.int 1)).set mm2.toNatClampNeg (.int 2)).set mm2.toNatClampNeg (.int 0)).set mm0.toNatClampNeg (.int (-1))))), (b326, .inr (.int, [(.int mm2), (.int mm1), (.int mm2)])), (b292, ob0 (.ref b1_65) (.ref b2_65) (.int 2)), (b1_65, .inr (.int, [(.int mm2), (.int mm1), (.int mm2)]))]) rfl rfl rfl
      refine A353.aload (q := 212) at_210 rfl rfl rfl ?_
      refine A353.iconst (q := 213) (v := 0) at_212 rfl rfl ?_
      refine A353.ldI (qn := 214) (i := 2) at_213 rfl (by decide) rfl rfl ?_
      have hc214_354 : mm2 = mm2 := by
        clear hw A0 A2 A4 A6 A7 A9 A10 A12 A13 A291 A293 A297 A299 A303 A305 A309 A311 A315 A317 A321 A323 A325 A327 A329 A330 A332 A333 A335 A336 A338 A339 A340 A344 A346 A347 A351 A353
        rfl
      refine A353.icmpNo (q := 217) at_214 (teq hc214_354).2 rfl ?_
      refine A353.iconst (q := 218) (v := 1) at_217 rfl rfl ?_
      refine A353.goto (q := 222) at_218 (by decide) (by decide) ?_
      refine A353.istore (q := 224) (l' := #[.val (.int x0), .val (.int x1), .val (.int x2), .val (.int x3), .val (.int 3), .val (.int mm0), .val (.int ((1 : Int32) + (x2 &&& (1 : Int32)))), .val (.ref b3), .val (.ref b292), .val (.int 0), .val (.int mm0), .val (.ref b326), .val (.int 2), .val (.int 1)]) at_222 rfl rfl ?_
      refine A353.iload (q := 226) at_224 rfl rfl ?_
      refine A353.iconst (q := 227) (v := 1) at_226 rfl rfl ?_
      refine A353.icmpNo (q := 230) at_227 (by decide) rfl ?_
      refine A353.iload (q := 232) at_230 rfl rfl ?_
      refine A353.ifNo (q := 235) at_232 (by decide) rfl ?_
      refine A353.aload (q := 237) at_235 rfl rfl rfl ?_
      refine A353.iconst (q := 238) (v := 1) at_237 rfl rfl ?_
      refine Here.callV (qn := 241) (os1 := [(b3, .inr (.int, [(.int mm0), (.int mm1), (.int mm2)])), (b2_65, .inr (.int, ((((([(.int (-1)), (.int (-1)), (.int (-1))].set mm0.toNatClampNeg (.int 0)).set mm1.toNatClampNeg (.int 1)).set mm2.toNatClampNeg (.int 2)).set mm2.toNatClampNeg (.int 0)).set mm0.toNatClampNeg (.int (-1))))), (b326, .inr (.int, [(.int mm2), (.int mm1), (.int mm2)]))]) (os2 := [(b292, ob0 (.ref b1_65) (.ref b2_65) (.int 2)), (b1_65, .inr (.int, [(.int mm2), (.int mm1), (.int mm2)]))]) (rest := []) (W := 0) (argsL := [(.int 1)]) (a := b292) (i := 3) A353 (m_get1 l Z a0 hw b292 b1_65 b2_65 ((2 : Int32)) mm2 mm1 mm2) (Or.inr ⟨rfl, rfl⟩) rfl (tw hw 45 rfl) (tw hw 46 rfl) (tw hw 48 rfl) (tw hw 47 rfl) (tw hw 4 rfl) (tw hw 49 rfl) (by decide) at_238 rfl (lenOf pd_6 rfl) rfl (Nat.le_of_eq rfl) (by decide) (by decide) (by decide) (by decide) rfl (fun T355 v356 os357 A358 P359 => ?_)
      obtain ⟨rfl, rfl⟩ := P359
      have A360 := A358.cast (k2 := 5) (n2 := 15) (os2 := [(b3, .inr (.int, [(.int mm0), (.int mm1), (.int mm2)])), (b2_65, .inr (.int, ((((([(.int (-1)), (.int (-1)), (.int (-1))].set mm0.toNatClampNeg (.int 0)).set mm1.toNatClampNeg (.int 1)).set mm2.toNatClampNeg (.int 2)).set mm2.toNatClampNeg (.int 0)).set mm0.toNatClampNeg (.int (-1))))), (b326, .inr (.int, [(.int mm2), (.int mm1), (.int mm2)])), (b292, ob0 (.ref b1_65) (.ref b2_65) (.int 2)), (b1_65, .inr (.int, [(.int mm2), (.int mm1), (.int mm2)]))]) rfl rfl rfl
      refine A360.aload (q := 243) at_241 rfl rfl rfl ?_
      refine A360.iconst (q := 244) (v := 1) at_243 rfl rfl ?_
      refine A360.ldI (qn := 245) (i := 2) at_244 rfl (by decide) rfl rfl ?_
      have hc245_361 : mm1 = mm1 := by
        clear hw A0 A2 A4 A6 A7 A9 A10 A12 A13 A291 A293 A297 A299 A303 A305 A309 A311 A315 A317 A321 A323 A325 A327 A329 A330 A332 A333 A335 A336 A338 A339 A340 A344 A346 A347 A351 A353 A358 A360
        rfl
      refine A360.icmpNo (q := 248) at_245 (teq hc245_361).2 rfl ?_
      refine A360.iconst (q := 249) (v := 1) at_248 rfl rfl ?_
      refine A360.goto (q := 253) at_249 (by decide) (by decide) ?_
      refine A360.istore (q := 255) (l' := #[.val (.int x0), .val (.int x1), .val (.int x2), .val (.int x3), .val (.int 3), .val (.int mm0), .val (.int ((1 : Int32) + (x2 &&& (1 : Int32)))), .val (.ref b3), .val (.ref b292), .val (.int 0), .val (.int mm0), .val (.ref b326), .val (.int 2), .val (.int 1)]) at_253 rfl rfl ?_
      refine A360.iload (q := 257) at_255 rfl rfl ?_
      refine A360.ifNo (q := 260) at_257 (by decide) rfl ?_
      refine A360.aload (q := 262) at_260 rfl rfl rfl ?_
      refine A360.iconst (q := 263) (v := 0) at_262 rfl rfl ?_
      have A362 := A360.pick (is := [0, 2, 4, 3, 1]) (os2 := [(b3, .inr (.int, [(.int mm0), (.int mm1), (.int mm2)])), (b326, .inr (.int, [(.int mm2), (.int mm1), (.int mm2)])), (b1_65, .inr (.int, [(.int mm2), (.int mm1), (.int mm2)])), (b292, ob0 (.ref b1_65) (.ref b2_65) (.int 2)), (b2_65, .inr (.int, ((((([(.int (-1)), (.int (-1)), (.int (-1))].set mm0.toNatClampNeg (.int 0)).set mm1.toNatClampNeg (.int 1)).set mm2.toNatClampNeg (.int 2)).set mm2.toNatClampNeg (.int 0)).set mm0.toNatClampNeg (.int (-1)))))]) (by decide) rfl
      refine Here.callV (qn := 266) (os1 := [(b3, .inr (.int, [(.int mm0), (.int mm1), (.int mm2)])), (b326, .inr (.int, [(.int mm2), (.int mm1), (.int mm2)])), (b1_65, .inr (.int, [(.int mm2), (.int mm1), (.int mm2)]))]) (os2 := [(b292, ob0 (.ref b1_65) (.ref b2_65) (.int 2)), (b2_65, .inr (.int, ((((([(.int (-1)), (.int (-1)), (.int (-1))].set mm0.toNatClampNeg (.int 0)).set mm1.toNatClampNeg (.int 1)).set mm2.toNatClampNeg (.int 2)).set mm2.toNatClampNeg (.int 0)).set mm0.toNatClampNeg (.int (-1)))))]) (rest := []) (W := 0) (argsL := [(.int 0)]) (a := b292) (i := 3) A362 (m_place0 l Z a0 hw b292 b1_65 b2_65 ((2 : Int32)) (((((([(.int (-1)), (.int (-1)), (.int (-1))].set mm0.toNatClampNeg (.int 0)).set mm1.toNatClampNeg (.int 1)).set mm2.toNatClampNeg (.int 2)).set mm2.toNatClampNeg (.int 0)).set mm0.toNatClampNeg (.int (-1)))) ((own_val (((((([(.int (-1)), (.int (-1)), (.int (-1))].set mm0.toNatClampNeg (.int 0)).set mm1.toNatClampNeg (.int 1)).set mm2.toNatClampNeg (.int 2)).set mm2.toNatClampNeg (.int 0)).set mm0.toNatClampNeg (.int (-1)))[(0 : Int32).toNatClampNeg]?))) (by rcases hperm with ⟨rfl, rfl, rfl⟩ | ⟨rfl, rfl, rfl⟩ | ⟨rfl, rfl, rfl⟩ | ⟨rfl, rfl, rfl⟩ | ⟨rfl, rfl, rfl⟩ | ⟨rfl, rfl, rfl⟩ <;> decide)) (Or.inr ⟨rfl, rfl⟩) rfl (tw hw 36 rfl) (tw hw 37 rfl) (tw hw 39 rfl) (tw hw 38 rfl) (tw hw 4 rfl) (tw hw 40 rfl) (by decide) at_263 rfl (lenOf pd_6 rfl) rfl (Nat.le_of_eq rfl) (by decide) (by decide) (by decide) (by decide) rfl (fun T363 v364 os365 A366 P367 => ?_)
      obtain ⟨rfl, rfl⟩ := P367
      have A368 := A366.cast (k2 := 5) (n2 := 15) (os2 := [(b3, .inr (.int, [(.int mm0), (.int mm1), (.int mm2)])), (b326, .inr (.int, [(.int mm2), (.int mm1), (.int mm2)])), (b1_65, .inr (.int, [(.int mm2), (.int mm1), (.int mm2)])), (b292, ob0 (.ref b1_65) (.ref b2_65) (.int 2)), (b2_65, .inr (.int, ((((([(.int (-1)), (.int (-1)), (.int (-1))].set mm0.toNatClampNeg (.int 0)).set mm1.toNatClampNeg (.int 1)).set mm2.toNatClampNeg (.int 2)).set mm2.toNatClampNeg (.int 0)).set mm0.toNatClampNeg (.int (-1)))))]) rfl rfl rfl
      refine A368.aload (q := 268) at_266 rfl rfl rfl ?_
      refine A368.iload (q := 270) at_268 rfl rfl ?_
      refine A368.iconst (q := 271) (v := 0) at_270 rfl rfl ?_
      have A369 := A368.pick (is := [0, 2, 3, 4, 1]) (os2 := [(b3, .inr (.int, [(.int mm0), (.int mm1), (.int mm2)])), (b1_65, .inr (.int, [(.int mm2), (.int mm1), (.int mm2)])), (b292, ob0 (.ref b1_65) (.ref b2_65) (.int 2)), (b2_65, .inr (.int, ((((([(.int (-1)), (.int (-1)), (.int (-1))].set mm0.toNatClampNeg (.int 0)).set mm1.toNatClampNeg (.int 1)).set mm2.toNatClampNeg (.int 2)).set mm2.toNatClampNeg (.int 0)).set mm0.toNatClampNeg (.int (-1))))), (b326, .inr (.int, [(.int mm2), (.int mm1), (.int mm2)]))]) (by decide) rfl
      refine Here.callS (qn := 274) (os1 := [(b3, .inr (.int, [(.int mm0), (.int mm1), (.int mm2)])), (b1_65, .inr (.int, [(.int mm2), (.int mm1), (.int mm2)])), (b292, ob0 (.ref b1_65) (.ref b2_65) (.int 2)), (b2_65, .inr (.int, ((((([(.int (-1)), (.int (-1)), (.int (-1))].set mm0.toNatClampNeg (.int 0)).set mm1.toNatClampNeg (.int 1)).set mm2.toNatClampNeg (.int 2)).set mm2.toNatClampNeg (.int 0)).set mm0.toNatClampNeg (.int (-1)))))]) (os2 := [(b326, .inr (.int, [(.int mm2), (.int mm1), (.int mm2)]))]) (rest := [(.int (own_val (((((([(.int (-1)), (.int (-1)), (.int (-1))].set mm0.toNatClampNeg (.int 0)).set mm1.toNatClampNeg (.int 1)).set mm2.toNatClampNeg (.int 2)).set mm2.toNatClampNeg (.int 0)).set mm0.toNatClampNeg (.int (-1)))[(0 : Int32).toNatClampNeg]?)))]) (W := 1) (argsL := [(.ref b326), (.int 2), (.int 0)]) A369 (m_exp2 l Z a0 hw b326 ((0 : Int32)) mm2 mm1 mm2) (Or.inr ⟨rfl, rfl⟩) (tw hw 41 rfl) (tw hw 42 rfl) (tw hw 43 rfl) (tw hw 44 rfl) (by decide) at_271 rfl (lenOf pd_7 rfl) rfl (Nat.le_of_eq rfl) (by decide) (by decide) (by decide) (by decide) rfl (fun T370 v371 os372 A373 P374 => ?_)
      obtain ⟨r_271, rfl, rfl, hq_271⟩ := P374
      have A375 := A373.cast (k2 := 5) (n2 := 15) (os2 := [(b3, .inr (.int, [(.int mm0), (.int mm1), (.int mm2)])), (b1_65, .inr (.int, [(.int mm2), (.int mm1), (.int mm2)])), (b292, ob0 (.ref b1_65) (.ref b2_65) (.int 2)), (b2_65, .inr (.int, ((((([(.int (-1)), (.int (-1)), (.int (-1))].set mm0.toNatClampNeg (.int 0)).set mm1.toNatClampNeg (.int 1)).set mm2.toNatClampNeg (.int 2)).set mm2.toNatClampNeg (.int 0)).set mm0.toNatClampNeg (.int (-1))))), (b326, .inr (.int, [(.int mm2), (.int mm1), (.int mm2)]))]) rfl rfl rfl
      have hc274_376 : (own_val (((((([(.int (-1)), (.int (-1)), (.int (-1))].set mm0.toNatClampNeg (.int 0)).set mm1.toNatClampNeg (.int 1)).set mm2.toNatClampNeg (.int 2)).set mm2.toNatClampNeg (.int 0)).set mm0.toNatClampNeg (.int (-1)))[(0 : Int32).toNatClampNeg]?)) = r_271 := by
        clear hw A0 A2 A4 A6 A7 A9 A10 A12 A13 A291 A293 A297 A299 A303 A305 A309 A311 A315 A317 A321 A323 A325 A327 A329 A330 A332 A333 A335 A336 A338 A339 A340 A344 A346 A347 A351 A353 A358 A360 A362 A366 A368 A369 A373 A375
        rcases hperm with ⟨rfl, rfl, rfl⟩ | ⟨rfl, rfl, rfl⟩ | ⟨rfl, rfl, rfl⟩ | ⟨rfl, rfl, rfl⟩ | ⟨rfl, rfl, rfl⟩ | ⟨rfl, rfl, rfl⟩ <;> rcases hq_271 with ⟨h, rfl⟩ | ⟨h, ⟨h2, rfl⟩ | ⟨h2, rfl⟩⟩ <;> first | decide | (exfalso; revert h; decide) | (exfalso; revert h2; decide)
      refine A375.icmpNo (q := 277) at_274 (teq hc274_376).2 rfl ?_
      refine A375.iconst (q := 278) (v := 1) at_277 rfl rfl ?_
      refine A375.goto (q := 282) at_278 (by decide) (by decide) ?_
      refine A375.istore (q := 284) (l' := #[.val (.int x0), .val (.int x1), .val (.int x2), .val (.int x3), .val (.int 3), .val (.int mm0), .val (.int ((1 : Int32) + (x2 &&& (1 : Int32)))), .val (.ref b3), .val (.ref b292), .val (.int 0), .val (.int mm0), .val (.ref b326), .val (.int 2), .val (.int 1)]) at_282 rfl rfl ?_
      refine A375.iload (q := 286) at_284 rfl rfl ?_
      refine A375.ifNo (q := 289) at_286 (by decide) rfl ?_
      refine A375.aload (q := 291) at_289 rfl rfl rfl ?_
      refine A375.iconst (q := 292) (v := 1) at_291 rfl rfl ?_
      have A377 := A375.pick (is := [0, 1, 4, 2, 3]) (os2 := [(b3, .inr (.int, [(.int mm0), (.int mm1), (.int mm2)])), (b1_65, .inr (.int, [(.int mm2), (.int mm1), (.int mm2)])), (b326, .inr (.int, [(.int mm2), (.int mm1), (.int mm2)])), (b292, ob0 (.ref b1_65) (.ref b2_65) (.int 2)), (b2_65, .inr (.int, ((((([(.int (-1)), (.int (-1)), (.int (-1))].set mm0.toNatClampNeg (.int 0)).set mm1.toNatClampNeg (.int 1)).set mm2.toNatClampNeg (.int 2)).set mm2.toNatClampNeg (.int 0)).set mm0.toNatClampNeg (.int (-1)))))]) (by decide) rfl
      refine Here.callV (qn := 295) (os1 := [(b3, .inr (.int, [(.int mm0), (.int mm1), (.int mm2)])), (b1_65, .inr (.int, [(.int mm2), (.int mm1), (.int mm2)])), (b326, .inr (.int, [(.int mm2), (.int mm1), (.int mm2)]))]) (os2 := [(b292, ob0 (.ref b1_65) (.ref b2_65) (.int 2)), (b2_65, .inr (.int, ((((([(.int (-1)), (.int (-1)), (.int (-1))].set mm0.toNatClampNeg (.int 0)).set mm1.toNatClampNeg (.int 1)).set mm2.toNatClampNeg (.int 2)).set mm2.toNatClampNeg (.int 0)).set mm0.toNatClampNeg (.int (-1)))))]) (rest := []) (W := 0) (argsL := [(.int 1)]) (a := b292) (i := 3) A377 (m_place1 l Z a0 hw b292 b1_65 b2_65 ((2 : Int32)) (((((([(.int (-1)), (.int (-1)), (.int (-1))].set mm0.toNatClampNeg (.int 0)).set mm1.toNatClampNeg (.int 1)).set mm2.toNatClampNeg (.int 2)).set mm2.toNatClampNeg (.int 0)).set mm0.toNatClampNeg (.int (-1)))) ((own_val (((((([(.int (-1)), (.int (-1)), (.int (-1))].set mm0.toNatClampNeg (.int 0)).set mm1.toNatClampNeg (.int 1)).set mm2.toNatClampNeg (.int 2)).set mm2.toNatClampNeg (.int 0)).set mm0.toNatClampNeg (.int (-1)))[(1 : Int32).toNatClampNeg]?))) (by rcases hperm with ⟨rfl, rfl, rfl⟩ | ⟨rfl, rfl, rfl⟩ | ⟨rfl, rfl, rfl⟩ | ⟨rfl, rfl, rfl⟩ | ⟨rfl, rfl, rfl⟩ | ⟨rfl, rfl, rfl⟩ <;> decide)) (Or.inr ⟨rfl, rfl⟩) rfl (tw hw 36 rfl) (tw hw 37 rfl) (tw hw 39 rfl) (tw hw 38 rfl) (tw hw 4 rfl) (tw hw 40 rfl) (by decide) at_292 rfl (lenOf pd_6 rfl) rfl (Nat.le_of_eq rfl) (by decide) (by decide) (by decide) (by decide) rfl (fun T378 v379 os380 A381 P382 => ?_)
      obtain ⟨rfl, rfl⟩ := P382
      have A383 := A381.cast (k2 := 5) (n2 := 15) (os2 := [(b3, .inr (.int, [(.int mm0), (.int mm1), (.int mm2)])), (b1_65, .inr (.int, [(.int mm2), (.int mm1), (.int mm2)])), (b326, .inr (.int, [(.int mm2), (.int mm1), (.int mm2)])), (b292, ob0 (.ref b1_65) (.ref b2_65) (.int 2)), (b2_65, .inr (.int, ((((([(.int (-1)), (.int (-1)), (.int (-1))].set mm0.toNatClampNeg (.int 0)).set mm1.toNatClampNeg (.int 1)).set mm2.toNatClampNeg (.int 2)).set mm2.toNatClampNeg (.int 0)).set mm0.toNatClampNeg (.int (-1)))))]) rfl rfl rfl
      refine A383.aload (q := 297) at_295 rfl rfl rfl ?_
      refine A383.iload (q := 299) at_297 rfl rfl ?_
      refine A383.iconst (q := 300) (v := 1) at_299 rfl rfl ?_
      have A384 := A383.pick (is := [0, 1, 3, 4, 2]) (os2 := [(b3, .inr (.int, [(.int mm0), (.int mm1), (.int mm2)])), (b1_65, .inr (.int, [(.int mm2), (.int mm1), (.int mm2)])), (b292, ob0 (.ref b1_65) (.ref b2_65) (.int 2)), (b2_65, .inr (.int, ((((([(.int (-1)), (.int (-1)), (.int (-1))].set mm0.toNatClampNeg (.int 0)).set mm1.toNatClampNeg (.int 1)).set mm2.toNatClampNeg (.int 2)).set mm2.toNatClampNeg (.int 0)).set mm0.toNatClampNeg (.int (-1))))), (b326, .inr (.int, [(.int mm2), (.int mm1), (.int mm2)]))]) (by decide) rfl
      refine Here.callS (qn := 303) (os1 := [(b3, .inr (.int, [(.int mm0), (.int mm1), (.int mm2)])), (b1_65, .inr (.int, [(.int mm2), (.int mm1), (.int mm2)])), (b292, ob0 (.ref b1_65) (.ref b2_65) (.int 2)), (b2_65, .inr (.int, ((((([(.int (-1)), (.int (-1)), (.int (-1))].set mm0.toNatClampNeg (.int 0)).set mm1.toNatClampNeg (.int 1)).set mm2.toNatClampNeg (.int 2)).set mm2.toNatClampNeg (.int 0)).set mm0.toNatClampNeg (.int (-1)))))]) (os2 := [(b326, .inr (.int, [(.int mm2), (.int mm1), (.int mm2)]))]) (rest := [(.int (own_val (((((([(.int (-1)), (.int (-1)), (.int (-1))].set mm0.toNatClampNeg (.int 0)).set mm1.toNatClampNeg (.int 1)).set mm2.toNatClampNeg (.int 2)).set mm2.toNatClampNeg (.int 0)).set mm0.toNatClampNeg (.int (-1)))[(1 : Int32).toNatClampNeg]?)))]) (W := 1) (argsL := [(.ref b326), (.int 2), (.int 1)]) A384 (m_exp2 l Z a0 hw b326 ((1 : Int32)) mm2 mm1 mm2) (Or.inr ⟨rfl, rfl⟩) (tw hw 41 rfl) (tw hw 42 rfl) (tw hw 43 rfl) (tw hw 44 rfl) (by decide) at_300 rfl (lenOf pd_7 rfl) rfl (Nat.le_of_eq rfl) (by decide) (by decide) (by decide) (by decide) rfl (fun T385 v386 os387 A388 P389 => ?_)
      obtain ⟨r_300, rfl, rfl, hq_300⟩ := P389
      have A390 := A388.cast (k2 := 5) (n2 := 15) (os2 := [(b3, .inr (.int, [(.int mm0), (.int mm1), (.int mm2)])), (b1_65, .inr (.int, [(.int mm2), (.int mm1), (.int mm2)])), (b292, ob0 (.ref b1_65) (.ref b2_65) (.int 2)), (b2_65, .inr (.int, ((((([(.int (-1)), (.int (-1)), (.int (-1))].set mm0.toNatClampNeg (.int 0)).set mm1.toNatClampNeg (.int 1)).set mm2.toNatClampNeg (.int 2)).set mm2.toNatClampNeg (.int 0)).set mm0.toNatClampNeg (.int (-1))))), (b326, .inr (.int, [(.int mm2), (.int mm1), (.int mm2)]))]) rfl rfl rfl
      have hc303_391 : (own_val (((((([(.int (-1)), (.int (-1)), (.int (-1))].set mm0.toNatClampNeg (.int 0)).set mm1.toNatClampNeg (.int 1)).set mm2.toNatClampNeg (.int 2)).set mm2.toNatClampNeg (.int 0)).set mm0.toNatClampNeg (.int (-1)))[(1 : Int32).toNatClampNeg]?)) = r_300 := by
        clear hw A0 A2 A4 A6 A7 A9 A10 A12 A13 A291 A293 A297 A299 A303 A305 A309 A311 A315 A317 A321 A323 A325 A327 A329 A330 A332 A333 A335 A336 A338 A339 A340 A344 A346 A347 A351 A353 A358 A360 A362 A366 A368 A369 A373 A375 A377 A381 A383 A384 A388 A390
        rcases hperm with ⟨rfl, rfl, rfl⟩ | ⟨rfl, rfl, rfl⟩ | ⟨rfl, rfl, rfl⟩ | ⟨rfl, rfl, rfl⟩ | ⟨rfl, rfl, rfl⟩ | ⟨rfl, rfl, rfl⟩ <;> rcases hq_300 with ⟨h, rfl⟩ | ⟨h, ⟨h2, rfl⟩ | ⟨h2, rfl⟩⟩ <;> first | decide | (exfalso; revert h; decide) | (exfalso; revert h2; decide)
      refine A390.icmpNo (q := 306) at_303 (teq hc303_391).2 rfl ?_
      refine A390.iconst (q := 307) (v := 1) at_306 rfl rfl ?_
      refine A390.goto (q := 311) at_307 (by decide) (by decide) ?_
      refine A390.istore (q := 313) (l' := #[.val (.int x0), .val (.int x1), .val (.int x2), .val (.int x3), .val (.int 3), .val (.int mm0), .val (.int ((1 : Int32) + (x2 &&& (1 : Int32)))), .val (.ref b3), .val (.ref b292), .val (.int 0), .val (.int mm0), .val (.ref b326), .val (.int 2), .val (.int 1)]) at_311 rfl rfl ?_
      refine A390.iload (q := 315) at_313 rfl rfl ?_
      refine A390.ifNo (q := 318) at_315 (by decide) rfl ?_
      refine A390.aload (q := 320) at_318 rfl rfl rfl ?_
      refine A390.iconst (q := 321) (v := 2) at_320 rfl rfl ?_
      have A392 := A390.pick (is := [0, 1, 4, 2, 3]) (os2 := [(b3, .inr (.int, [(.int mm0), (.int mm1), (.int mm2)])), (b1_65, .inr (.int, [(.int mm2), (.int mm1), (.int mm2)])), (b326, .inr (.int, [(.int mm2), (.int mm1), (.int mm2)])), (b292, ob0 (.ref b1_65) (.ref b2_65) (.int 2)), (b2_65, .inr (.int, ((((([(.int (-1)), (.int (-1)), (.int (-1))].set mm0.toNatClampNeg (.int 0)).set mm1.toNatClampNeg (.int 1)).set mm2.toNatClampNeg (.int 2)).set mm2.toNatClampNeg (.int 0)).set mm0.toNatClampNeg (.int (-1)))))]) (by decide) rfl
      refine Here.callV (qn := 324) (os1 := [(b3, .inr (.int, [(.int mm0), (.int mm1), (.int mm2)])), (b1_65, .inr (.int, [(.int mm2), (.int mm1), (.int mm2)])), (b326, .inr (.int, [(.int mm2), (.int mm1), (.int mm2)]))]) (os2 := [(b292, ob0 (.ref b1_65) (.ref b2_65) (.int 2)), (b2_65, .inr (.int, ((((([(.int (-1)), (.int (-1)), (.int (-1))].set mm0.toNatClampNeg (.int 0)).set mm1.toNatClampNeg (.int 1)).set mm2.toNatClampNeg (.int 2)).set mm2.toNatClampNeg (.int 0)).set mm0.toNatClampNeg (.int (-1)))))]) (rest := []) (W := 0) (argsL := [(.int 2)]) (a := b292) (i := 3) A392 (m_place2 l Z a0 hw b292 b1_65 b2_65 ((2 : Int32)) (((((([(.int (-1)), (.int (-1)), (.int (-1))].set mm0.toNatClampNeg (.int 0)).set mm1.toNatClampNeg (.int 1)).set mm2.toNatClampNeg (.int 2)).set mm2.toNatClampNeg (.int 0)).set mm0.toNatClampNeg (.int (-1)))) ((own_val (((((([(.int (-1)), (.int (-1)), (.int (-1))].set mm0.toNatClampNeg (.int 0)).set mm1.toNatClampNeg (.int 1)).set mm2.toNatClampNeg (.int 2)).set mm2.toNatClampNeg (.int 0)).set mm0.toNatClampNeg (.int (-1)))[(2 : Int32).toNatClampNeg]?))) (by rcases hperm with ⟨rfl, rfl, rfl⟩ | ⟨rfl, rfl, rfl⟩ | ⟨rfl, rfl, rfl⟩ | ⟨rfl, rfl, rfl⟩ | ⟨rfl, rfl, rfl⟩ | ⟨rfl, rfl, rfl⟩ <;> decide)) (Or.inr ⟨rfl, rfl⟩) rfl (tw hw 36 rfl) (tw hw 37 rfl) (tw hw 39 rfl) (tw hw 38 rfl) (tw hw 4 rfl) (tw hw 40 rfl) (by decide) at_321 rfl (lenOf pd_6 rfl) rfl (Nat.le_of_eq rfl) (by decide) (by decide) (by decide) (by decide) rfl (fun T393 v394 os395 A396 P397 => ?_)
      obtain ⟨rfl, rfl⟩ := P397
      have A398 := A396.cast (k2 := 5) (n2 := 15) (os2 := [(b3, .inr (.int, [(.int mm0), (.int mm1), (.int mm2)])), (b1_65, .inr (.int, [(.int mm2), (.int mm1), (.int mm2)])), (b326, .inr (.int, [(.int mm2), (.int mm1), (.int mm2)])), (b292, ob0 (.ref b1_65) (.ref b2_65) (.int 2)), (b2_65, .inr (.int, ((((([(.int (-1)), (.int (-1)), (.int (-1))].set mm0.toNatClampNeg (.int 0)).set mm1.toNatClampNeg (.int 1)).set mm2.toNatClampNeg (.int 2)).set mm2.toNatClampNeg (.int 0)).set mm0.toNatClampNeg (.int (-1)))))]) rfl rfl rfl
      refine A398.aload (q := 326) at_324 rfl rfl rfl ?_
      refine A398.iload (q := 328) at_326 rfl rfl ?_
      refine A398.iconst (q := 329) (v := 2) at_328 rfl rfl ?_
      have A399 := A398.pick (is := [0, 1, 3, 4, 2]) (os2 := [(b3, .inr (.int, [(.int mm0), (.int mm1), (.int mm2)])), (b1_65, .inr (.int, [(.int mm2), (.int mm1), (.int mm2)])), (b292, ob0 (.ref b1_65) (.ref b2_65) (.int 2)), (b2_65, .inr (.int, ((((([(.int (-1)), (.int (-1)), (.int (-1))].set mm0.toNatClampNeg (.int 0)).set mm1.toNatClampNeg (.int 1)).set mm2.toNatClampNeg (.int 2)).set mm2.toNatClampNeg (.int 0)).set mm0.toNatClampNeg (.int (-1))))), (b326, .inr (.int, [(.int mm2), (.int mm1), (.int mm2)]))]) (by decide) rfl
      refine Here.callS (qn := 332) (os1 := [(b3, .inr (.int, [(.int mm0), (.int mm1), (.int mm2)])), (b1_65, .inr (.int, [(.int mm2), (.int mm1), (.int mm2)])), (b292, ob0 (.ref b1_65) (.ref b2_65) (.int 2)), (b2_65, .inr (.int, ((((([(.int (-1)), (.int (-1)), (.int (-1))].set mm0.toNatClampNeg (.int 0)).set mm1.toNatClampNeg (.int 1)).set mm2.toNatClampNeg (.int 2)).set mm2.toNatClampNeg (.int 0)).set mm0.toNatClampNeg (.int (-1)))))]) (os2 := [(b326, .inr (.int, [(.int mm2), (.int mm1), (.int mm2)]))]) (rest := [(.int (own_val (((((([(.int (-1)), (.int (-1)), (.int (-1))].set mm0.toNatClampNeg (.int 0)).set mm1.toNatClampNeg (.int 1)).set mm2.toNatClampNeg (.int 2)).set mm2.toNatClampNeg (.int 0)).set mm0.toNatClampNeg (.int (-1)))[(2 : Int32).toNatClampNeg]?)))]) (W := 1) (argsL := [(.ref b326), (.int 2), (.int 2)]) A399 (m_exp2 l Z a0 hw b326 ((2 : Int32)) mm2 mm1 mm2) (Or.inr ⟨rfl, rfl⟩) (tw hw 41 rfl) (tw hw 42 rfl) (tw hw 43 rfl) (tw hw 44 rfl) (by decide) at_329 rfl (lenOf pd_7 rfl) rfl (Nat.le_of_eq rfl) (by decide) (by decide) (by decide) (by decide) rfl (fun T400 v401 os402 A403 P404 => ?_)
      obtain ⟨r_329, rfl, rfl, hq_329⟩ := P404
      have A405 := A403.cast (k2 := 5) (n2 := 15) (os2 := [(b3, .inr (.int, [(.int mm0), (.int mm1), (.int mm2)])), (b1_65, .inr (.int, [(.int mm2), (.int mm1), (.int mm2)])), (b292, ob0 (.ref b1_65) (.ref b2_65) (.int 2)), (b2_65, .inr (.int, ((((([(.int (-1)), (.int (-1)), (.int (-1))].set mm0.toNatClampNeg (.int 0)).set mm1.toNatClampNeg (.int 1)).set mm2.toNatClampNeg (.int 2)).set mm2.toNatClampNeg (.int 0)).set mm0.toNatClampNeg (.int (-1))))), (b326, .inr (.int, [(.int mm2), (.int mm1), (.int mm2)]))]) rfl rfl rfl
      have hc332_406 : (own_val (((((([(.int (-1)), (.int (-1)), (.int (-1))].set mm0.toNatClampNeg (.int 0)).set mm1.toNatClampNeg (.int 1)).set mm2.toNatClampNeg (.int 2)).set mm2.toNatClampNeg (.int 0)).set mm0.toNatClampNeg (.int (-1)))[(2 : Int32).toNatClampNeg]?)) = r_329 := by
        clear hw A0 A2 A4 A6 A7 A9 A10 A12 A13 A291 A293 A297 A299 A303 A305 A309 A311 A315 A317 A321 A323 A325 A327 A329 A330 A332 A333 A335 A336 A338 A339 A340 A344 A346 A347 A351 A353 A358 A360 A362 A366 A368 A369 A373 A375 A377 A381 A383 A384 A388 A390 A392 A396 A398 A399 A403 A405
        rcases hperm with ⟨rfl, rfl, rfl⟩ | ⟨rfl, rfl, rfl⟩ | ⟨rfl, rfl, rfl⟩ | ⟨rfl, rfl, rfl⟩ | ⟨rfl, rfl, rfl⟩ | ⟨rfl, rfl, rfl⟩ <;> rcases hq_329 with ⟨h, rfl⟩ | ⟨h, ⟨h2, rfl⟩ | ⟨h2, rfl⟩⟩ <;> first | decide | (exfalso; revert h; decide) | (exfalso; revert h2; decide)
      refine A405.icmpNo (q := 335) at_332 (teq hc332_406).2 rfl ?_
      refine A405.iconst (q := 336) (v := 1) at_335 rfl rfl ?_
      refine A405.goto (q := 340) at_336 (by decide) (by decide) ?_
      refine A405.istore (q := 342) (l' := #[.val (.int x0), .val (.int x1), .val (.int x2), .val (.int x3), .val (.int 3), .val (.int mm0), .val (.int ((1 : Int32) + (x2 &&& (1 : Int32)))), .val (.ref b3), .val (.ref b292), .val (.int 0), .val (.int mm0), .val (.ref b326), .val (.int 2), .val (.int 1)]) at_340 rfl rfl ?_
      refine A405.iload (q := 344) at_342 rfl rfl ?_
      exact A405.retN (by simp) at_344 (by decide) (by decide) ⟨rfl, trivial⟩
    · rw [ht]
      show Wp _ _ _ _ _ _ _ _ _ _ T312 (mkF m 116 #[.val (.int x0), .val (.int x1), .val (.int x2), .val (.int x3), .val (.int 3), .val (.int mm0), .val (.int ((1 : Int32) + (x2 &&& (1 : Int32)))), .val (.ref b3), .val (.ref b292), .unset, .unset, .unset, .unset, .unset] [(.int 1)])
      refine A317.istore (q := 118) (l' := #[.val (.int x0), .val (.int x1), .val (.int x2), .val (.int x3), .val (.int 3), .val (.int mm0), .val (.int ((1 : Int32) + (x2 &&& (1 : Int32)))), .val (.ref b3), .val (.ref b292), .val (.int 1), .unset, .unset, .unset, .unset]) at_116 rfl rfl ?_
      refine A317.aload (q := 120) at_118 rfl rfl rfl ?_
      refine A317.iload (q := 122) at_120 rfl rfl ?_
      refine A317.ldI (qn := 123) (i := 0) at_122 rfl (by decide) rfl rfl ?_
      refine A317.istore (q := 125) (l' := #[.val (.int x0), .val (.int x1), .val (.int x2), .val (.int x3), .val (.int 3), .val (.int mm0), .val (.int ((1 : Int32) + (x2 &&& (1 : Int32)))), .val (.ref b3), .val (.ref b292), .val (.int 1), .val (.int mm1), .unset, .unset, .unset]) at_123 rfl rfl ?_
      refine A317.aload (q := 127) at_125 rfl rfl rfl ?_
      refine A317.iload (q := 129) at_127 rfl rfl ?_
      refine Here.callV (qn := 132) (os1 := [(b3, .inr (.int, [(.int mm0), (.int mm1), (.int mm2)]))]) (os2 := [(b292, ob0 (.ref b1_65) (.ref b2_65) (.int 3)), (b1_65, .inr (.int, [(.int mm0), (.int mm1), (.int mm2)])), (b2_65, .inr (.int, ((([(.int (-1)), (.int (-1)), (.int (-1))].set mm0.toNatClampNeg (.int 0)).set mm1.toNatClampNeg (.int 1)).set mm2.toNatClampNeg (.int 2))))]) (rest := []) (W := 0) (argsL := [(.int mm1)]) (a := b292) (i := 1) A317 (m_rem31 l Z a0 hw b292 b1_65 b2_65 mm1 mm0 mm1 mm2 (((([(.int (-1)), (.int (-1)), (.int (-1))].set mm0.toNatClampNeg (.int 0)).set mm1.toNatClampNeg (.int 1)).set mm2.toNatClampNeg (.int 2))) (by rcases hperm with ⟨rfl, rfl, rfl⟩ | ⟨rfl, rfl, rfl⟩ | ⟨rfl, rfl, rfl⟩ | ⟨rfl, rfl, rfl⟩ | ⟨rfl, rfl, rfl⟩ | ⟨rfl, rfl, rfl⟩ <;> decide) (by rcases hperm with ⟨rfl, rfl, rfl⟩ | ⟨rfl, rfl, rfl⟩ | ⟨rfl, rfl, rfl⟩ | ⟨rfl, rfl, rfl⟩ | ⟨rfl, rfl, rfl⟩ | ⟨rfl, rfl, rfl⟩ <;> decide) (by rcases hperm with ⟨rfl, rfl, rfl⟩ | ⟨rfl, rfl, rfl⟩ | ⟨rfl, rfl, rfl⟩ | ⟨rfl, rfl, rfl⟩ | ⟨rfl, rfl, rfl⟩ | ⟨rfl, rfl, rfl⟩ <;> decide) (by rcases hperm with ⟨rfl, rfl, rfl⟩ | ⟨rfl, rfl, rfl⟩ | ⟨rfl, rfl, rfl⟩ | ⟨rfl, rfl, rfl⟩ | ⟨rfl, rfl, rfl⟩ | ⟨rfl, rfl, rfl⟩ <;> decide) (by rcases hperm with ⟨rfl, rfl, rfl⟩ | ⟨rfl, rfl, rfl⟩ | ⟨rfl, rfl, rfl⟩ | ⟨rfl, rfl, rfl⟩ | ⟨rfl, rfl, rfl⟩ | ⟨rfl, rfl, rfl⟩ <;> decide)) (Or.inr ⟨rfl, rfl⟩) rfl (tw hw 26 rfl) (tw hw 27 rfl) (tw hw 29 rfl) (tw hw 28 rfl) (tw hw 4 rfl) (tw hw 30 rfl) (by decide) at_129 rfl (lenOf pd_4 rfl) rfl (Nat.le_of_eq rfl) (by decide) (by decide) (by decide) (by decide) rfl (fun T407 v408 os409 A410 P411 => ?_)
      obtain ⟨rfl, rfl⟩ := P411
      have A412 := A410.cast (k2 := 4) (n2 := 12) (os2 := [(b3, .inr (.int, [(.int mm0), (.int mm1), (.int mm2)])), (b292, ob0 (.ref b1_65) (.ref b2_65) (.int 2)), (b1_65, .inr (.int, [(.int mm0), (.int mm2), (.int mm2)])), (b2_65, .inr (.int, ((((([(.int (-1)), (.int (-1)), (.int (-1))].set mm0.toNatClampNeg (.int 0)).set mm1.toNatClampNeg (.int 1)).set mm2.toNatClampNeg (.int 2)).set mm2.toNatClampNeg (.int 1)).set mm1.toNatClampNeg (.int (-1)))))]) rfl rfl rfl
      refine A412.iconst (q := 133) (v := 3) at_132 rfl rfl ?_
      refine A412.newP (qn := 135) (cap := 3) (tw hw 1 rfl) at_133 (by decide) (by decide) (by decide) (by decide) (by decide) rfl (fun T413 b415 A414 => ?_)
      have A416 := A414.cast (k2 := 5) (n2 := 15) (os2 := [(b3, .inr (.int, [(.int mm0), (.int mm1), (.int mm2)])), (b292, ob0 (.ref b1_65) (.ref b2_65) (.int 2)), (b1_65, .inr (.int, [(.int mm0), (.int mm2), (.int mm2)])), (b2_65, .inr (.int, ((((([(.int (-1)), (.int (-1)), (.int (-1))].set mm0.toNatClampNeg (.int 0)).set mm1.toNatClampNeg (.int 1)).set mm2.toNatClampNeg (.int 2)).set mm2.toNatClampNeg (.int 1)).set mm1.toNatClampNeg (.int (-1))))), (b415, .inr (.int, [(.int 0), (.int 0), (.int 0)]))]) rfl rfl rfl
      refine A416.astore (q := 137) (l' := #[.val (.int x0), .val (.int x1), .val (.int x2), .val (.int x3), .val (.int 3), .val (.int mm0), .val (.int ((1 : Int32) + (x2 &&& (1 : Int32)))), .val (.ref b3), .val (.ref b292), .val (.int 1), .val (.int mm1), .val (.ref b415), .unset, .unset]) at_135 rfl rfl rfl ?_
      refine A416.aload (q := 139) at_137 rfl rfl rfl ?_
      refine A416.iconst (q := 140) (v := 0) at_139 rfl rfl ?_
      refine A416.aload (q := 142) at_140 rfl rfl rfl ?_
      refine A416.iconst (q := 143) (v := 0) at_142 rfl rfl ?_
      refine A416.ldI (qn := 144) (i := 0) at_143 rfl (by decide) rfl rfl ?_
      refine A416.stI (qn := 145) (i := 4) at_144 rfl (by decide) (show (0 : Int32).toNatClampNeg < 3 from by decide) rfl rfl (fun T417 A418 => ?_)
      have A419 := A418.cast (k2 := 5) (n2 := 15) (os2 := [(b3, .inr (.int, [(.int mm0), (.int mm1), (.int mm2)])), (b292, ob0 (.ref b1_65) (.ref b2_65) (.int 2)), (b1_65, .inr (.int, [(.int mm0), (.int mm2), (.int mm2)])), (b2_65, .inr (.int, ((((([(.int (-1)), (.int (-1)), (.int (-1))].set mm0.toNatClampNeg (.int 0)).set mm1.toNatClampNeg (.int 1)).set mm2.toNatClampNeg (.int 2)).set mm2.toNatClampNeg (.int 1)).set mm1.toNatClampNeg (.int (-1))))), (b415, .inr (.int, [(.int mm0), (.int 0), (.int 0)]))]) rfl rfl rfl
      refine A419.aload (q := 147) at_145 rfl rfl rfl ?_
      refine A419.iconst (q := 148) (v := 1) at_147 rfl rfl ?_
      refine A419.aload (q := 150) at_148 rfl rfl rfl ?_
      refine A419.iconst (q := 151) (v := 1) at_150 rfl rfl ?_
      refine A419.ldI (qn := 152) (i := 0) at_151 rfl (by decide) rfl rfl ?_
      refine A419.stI (qn := 153) (i := 4) at_152 rfl (by decide) (show (1 : Int32).toNatClampNeg < 3 from by decide) rfl rfl (fun T420 A421 => ?_)
      have A422 := A421.cast (k2 := 5) (n2 := 15) (os2 := [(b3, .inr (.int, [(.int mm0), (.int mm1), (.int mm2)])), (b292, ob0 (.ref b1_65) (.ref b2_65) (.int 2)), (b1_65, .inr (.int, [(.int mm0), (.int mm2), (.int mm2)])), (b2_65, .inr (.int, ((((([(.int (-1)), (.int (-1)), (.int (-1))].set mm0.toNatClampNeg (.int 0)).set mm1.toNatClampNeg (.int 1)).set mm2.toNatClampNeg (.int 2)).set mm2.toNatClampNeg (.int 1)).set mm1.toNatClampNeg (.int (-1))))), (b415, .inr (.int, [(.int mm0), (.int mm1), (.int 0)]))]) rfl rfl rfl
      refine A422.aload (q := 155) at_153 rfl rfl rfl ?_
      refine A422.iconst (q := 156) (v := 2) at_155 rfl rfl ?_
      refine A422.aload (q := 158) at_156 rfl rfl rfl ?_
      refine A422.iconst (q := 159) (v := 2) at_158 rfl rfl ?_
      refine A422.ldI (qn := 160) (i := 0) at_159 rfl (by decide) rfl rfl ?_
      refine A422.stI (qn := 161) (i := 4) at_160 rfl (by decide) (show (2 : Int32).toNatClampNeg < 3 from by decide) rfl rfl (fun T423 A424 => ?_)
      have A425 := A424.cast (k2 := 5) (n2 := 15) (os2 := [(b3, .inr (.int, [(.int mm0), (.int mm1), (.int mm2)])), (b292, ob0 (.ref b1_65) (.ref b2_65) (.int 2)), (b1_65, .inr (.int, [(.int mm0), (.int mm2), (.int mm2)])), (b2_65, .inr (.int, ((((([(.int (-1)), (.int (-1)), (.int (-1))].set mm0.toNatClampNeg (.int 0)).set mm1.toNatClampNeg (.int 1)).set mm2.toNatClampNeg (.int 2)).set mm2.toNatClampNeg (.int 1)).set mm1.toNatClampNeg (.int (-1))))), (b415, .inr (.int, [(.int mm0), (.int mm1), (.int mm2)]))]) rfl rfl rfl
      refine A425.iload (q := 163) at_161 rfl rfl ?_
      refine A425.iconst (q := 164) (v := 1) at_163 rfl rfl ?_
      refine A425.isub (q := 165) at_164 rfl ?_
      refine Wp.top (v' := (.int 2)) rfl ?_
      refine A425.istore (q := 167) (l' := #[.val (.int x0), .val (.int x1), .val (.int x2), .val (.int x3), .val (.int 3), .val (.int mm0), .val (.int ((1 : Int32) + (x2 &&& (1 : Int32)))), .val (.ref b3), .val (.ref b292), .val (.int 1), .val (.int mm1), .val (.ref b415), .val (.int 2), .unset]) at_165 rfl rfl ?_
      refine A425.aload (q := 169) at_167 rfl rfl rfl ?_
      refine A425.iload (q := 171) at_169 rfl rfl ?_
      refine A425.aload (q := 173) at_171 rfl rfl rfl ?_
      refine A425.iload (q := 175) at_173 rfl rfl ?_
      refine A425.ldI (qn := 176) (i := 0) at_175 rfl (by decide) rfl rfl ?_
      refine A425.stI (qn := 177) (i := 4) at_176 rfl (by decide) (show (1 : Int32).toNatClampNeg < 3 from by decide) rfl rfl (fun T426 A427 => ?_)
      have A428 := A427.cast (k2 := 5) (n2 := 15) (os2 := [(b3, .inr (.int, [(.int mm0), (.int mm1), (.int mm2)])), (b292, ob0 (.ref b1_65) (.ref b2_65) (.int 2)), (b1_65, .inr (.int, [(.int mm0), (.int mm2), (.int mm2)])), (b2_65, .inr (.int, ((((([(.int (-1)), (.int (-1)), (.int (-1))].set mm0.toNatClampNeg (.int 0)).set mm1.toNatClampNeg (.int 1)).set mm2.toNatClampNeg (.int 2)).set mm2.toNatClampNeg (.int 1)).set mm1.toNatClampNeg (.int (-1))))), (b415, .inr (.int, [(.int mm0), (.int mm2), (.int mm2)]))]) rfl rfl rfl
      refine A428.aload (q := 179) at_177 rfl rfl rfl ?_
      have A429 := A428.pick (is := [0, 2, 3, 4, 1]) (os2 := [(b3, .inr (.int, [(.int mm0), (.int mm1), (.int mm2)])), (b1_65, .inr (.int, [(.int mm0), (.int mm2), (.int mm2)])), (b2_65, .inr (.int, ((((([(.int (-1)), (.int (-1)), (.int (-1))].set mm0.toNatClampNeg (.int 0)).set mm1.toNatClampNeg (.int 1)).set mm2.toNatClampNeg (.int 2)).set mm2.toNatClampNeg (.int 1)).set mm1.toNatClampNeg (.int (-1))))), (b415, .inr (.int, [(.int mm0), (.int mm2), (.int mm2)])), (b292, ob0 (.ref b1_65) (.ref b2_65) (.int 2))]) (by decide) rfl
      refine Here.callV (qn := 182) (os1 := [(b3, .inr (.int, [(.int mm0), (.int mm1), (.int mm2)])), (b1_65, .inr (.int, [(.int mm0), (.int mm2), (.int mm2)])), (b2_65, .inr (.int, ((((([(.int (-1)), (.int (-1)), (.int (-1))].set mm0.toNatClampNeg (.int 0)).set mm1.toNatClampNeg (.int 1)).set mm2.toNatClampNeg (.int 2)).set mm2.toNatClampNeg (.int 1)).set mm1.toNatClampNeg (.int (-1))))), (b415, .inr (.int, [(.int mm0), (.int mm2), (.int mm2)]))]) (os2 := [(b292, ob0 (.ref b1_65) (.ref b2_65) (.int 2))]) (rest := []) (W := 0) (argsL := []) (a := b292) (i := 4) A429 (m_size l Z a0 hw b292 b1_65 b2_65 ((2 : Int32))) (Or.inr ⟨rfl, rfl⟩) rfl (tw hw 31 rfl) (tw hw 32 rfl) (tw hw 34 rfl) (tw hw 33 rfl) (tw hw 4 rfl) (tw hw 35 rfl) (by decide) at_179 rfl (lenOf pd_5 rfl) rfl (Nat.le_of_eq rfl) (by decide) (by decide) (by decide) (by decide) rfl (fun T430 v431 os432 A433 P434 => ?_)
      obtain ⟨rfl, rfl⟩ := P434
      have A435 := A433.cast (k2 := 5) (n2 := 15) (os2 := [(b3, .inr (.int, [(.int mm0), (.int mm1), (.int mm2)])), (b1_65, .inr (.int, [(.int mm0), (.int mm2), (.int mm2)])), (b2_65, .inr (.int, ((((([(.int (-1)), (.int (-1)), (.int (-1))].set mm0.toNatClampNeg (.int 0)).set mm1.toNatClampNeg (.int 1)).set mm2.toNatClampNeg (.int 2)).set mm2.toNatClampNeg (.int 1)).set mm1.toNatClampNeg (.int (-1))))), (b415, .inr (.int, [(.int mm0), (.int mm2), (.int mm2)])), (b292, ob0 (.ref b1_65) (.ref b2_65) (.int 2))]) rfl rfl rfl
      refine A435.iload (q := 184) at_182 rfl rfl ?_
      refine A435.icmpNo (q := 187) at_184 (by decide) rfl ?_
      refine A435.iconst (q := 188) (v := 1) at_187 rfl rfl ?_
      refine A435.goto (q := 192) at_188 (by decide) (by decide) ?_
      refine A435.istore (q := 194) (l' := #[.val (.int x0), .val (.int x1), .val (.int x2), .val (.int x3), .val (.int 3), .val (.int mm0), .val (.int ((1 : Int32) + (x2 &&& (1 : Int32)))), .val (.ref b3), .val (.ref b292), .val (.int 1), .val (.int mm1), .val (.ref b415), .val (.int 2), .val (.int 1)]) at_192 rfl rfl ?_
      refine A435.iload (q := 196) at_194 rfl rfl ?_
      refine A435.ifNo (q := 199) at_196 (by decide) rfl ?_
      refine A435.iload (q := 201) at_199 rfl rfl ?_
      refine A435.ifNo (q := 204) at_201 (by decide) rfl ?_
      refine A435.aload (q := 206) at_204 rfl rfl rfl ?_
      refine A435.iconst (q := 207) (v := 0) at_206 rfl rfl ?_
      have A436 := A435.pick (is := [0, 2, 3, 4, 1]) (os2 := [(b3, .inr (.int, [(.int mm0), (.int mm1), (.int mm2)])), (b2_65, .inr (.int, ((((([(.int (-1)), (.int (-1)), (.int (-1))].set mm0.toNatClampNeg (.int 0)).set mm1.toNatClampNeg (.int 1)).set mm2.toNatClampNeg (.int 2)).set mm2.toNatClampNeg (.int 1)).set mm1.toNatClampNeg (.int (-1))))), (b415, .inr (.int, [(.int mm0), (.int mm2), (.int mm2)])), (b292, ob0 (.ref b1_65) (.ref b2_65) (.int 2)), (b1_65, .inr (.int, [(.int mm0), (.int mm2), (.int mm2)]))]) (by decide) rfl
      refine Here.callV (qn := 210) (os1 := [(b3, .inr (.int, [(.int mm0), (.int mm1), (.int mm2)])), (b2_65, .inr (.int, ((((([(.int (-1)), (.int (-1)), (.int (-1))].set mm0.toNatClampNeg (.int 0)).set mm1.toNatClampNeg (.int 1)).set mm2.toNatClampNeg (.int 2)).set mm2.toNatClampNeg (.int 1)).set mm1.toNatClampNeg (.int (-1))))), (b415, .inr (.int, [(.int mm0), (.int mm2), (.int mm2)]))]) (os2 := [(b292, ob0 (.ref b1_65) (.ref b2_65) (.int 2)), (b1_65, .inr (.int, [(.int mm0), (.int mm2), (.int mm2)]))]) (rest := []) (W := 0) (argsL := [(.int 0)]) (a := b292) (i := 3) A436 (m_get0 l Z a0 hw b292 b1_65 b2_65 ((2 : Int32)) mm0 mm2 mm2) (Or.inr ⟨rfl, rfl⟩) rfl (tw hw 45 rfl) (tw hw 46 rfl) (tw hw 48 rfl) (tw hw 47 rfl) (tw hw 4 rfl) (tw hw 49 rfl) (by decide) at_207 rfl (lenOf pd_6 rfl) rfl (Nat.le_of_eq rfl) (by decide) (by decide) (by decide) (by decide) rfl (fun T437 v438 os439 A440 P441 => ?_)
      obtain ⟨rfl, rfl⟩ := P441
      have A442 := A440.cast (k2 := 5) (n2 := 15) (os2 := [(b3, .inr (.int, [(.int mm0), (.int mm1), (.int mm2)])), (b2_65, .inr (.int, ((((([(.int (-1)), (.int (-1)), (.int (-1))].set mm0.toNatClampNeg (.int 0)).set mm1.toNatClampNeg (.int 1)).set mm2.toNatClampNeg (.int 2)).set mm2.toNatClampNeg (.int 1)).set mm1.toNatClampNeg (.int (-1))))), (b415, .inr (.int, [(.int mm0), (.int mm2), (.int mm2)])), (b292, ob0 (.ref b1_65) (.ref b2_65) (.int 2)), (b1_65, .inr (.int, [(.int mm0), (.int mm2), (.int mm2)]))]) rfl rfl rfl
      refine A442.aload (q := 212) at_210 rfl rfl rfl ?_
      refine A442.iconst (q := 213) (v := 0) at_212 rfl rfl ?_
      refine A442.ldI (qn := 214) (i := 2) at_213 rfl (by decide) rfl rfl ?_
      have hc214_443 : mm0 = mm0 := by
        clear hw A0 A2 A4 A6 A7 A9 A10 A12 A13 A291 A293 A297 A299 A303 A305 A309 A311 A315 A317 A410 A412 A414 A416 A418 A419 A421 A422 A424 A425 A427 A428 A429 A433 A435 A436 A440 A442
        rfl
      refine A442.icmpNo (q := 217) at_214 (teq hc214_443).2 rfl ?_
      refine A442.iconst (q := 218) (v := 1) at_217 rfl rfl ?_
      refine A442.goto (q := 222) at_218 (by decide) (by decide) ?_
      refine A442.istore (q := 224) (l' := #[.val (.int x0), .val (.int x1), .val (.int x2), .val (.int x3), .val (.int 3), .val (.int mm0), .val (.int ((1 : Int32) + (x2 &&& (1 : Int32)))), .val (.ref b3), .val (.ref b292), .val (.int 1), .val (.int mm1), .val (.ref b415), .val (.int 2), .val (.int 1)]) at_222 rfl rfl ?_
      refine A442.iload (q := 226) at_224 rfl rfl ?_
      refine A442.iconst (q := 227) (v := 1) at_226 rfl rfl ?_
      refine A442.icmpNo (q := 230) at_227 (by decide) rfl ?_
      refine A442.iload (q := 232) at_230 rfl rfl ?_
      refine A442.ifNo (q := 235) at_232 (by decide) rfl ?_
      refine A442.aload (q := 237) at_235 rfl rfl rfl ?_
      refine A442.iconst (q := 238) (v := 1) at_237 rfl rfl ?_
      refine Here.callV (qn := 241) (os1 := [(b3, .inr (.int, [(.int mm0), (.int mm1), (.int mm2)])), (b2_65, .inr (.int, ((((([(.int (-1)), (.int (-1)), (.int (-1))].set mm0.toNatClampNeg (.int 0)).set mm1.toNatClampNeg (.int 1)).set mm2.toNatClampNeg (.int 2)).set mm2.toNatClampNeg (.int 1)).set mm1.toNatClampNeg (.int (-1))))), (b415, .inr (.int, [(.int mm0), (.int mm2), (.int mm2)]))]) (os2 := [(b292, ob0 (.ref b1_65) (.ref b2_65) (.int 2)), (b1_65, .inr (.int, [(.int mm0), (.int mm2), (.int mm2)]))]) (rest := []) (W := 0) (argsL := [(.int 1)]) (a := b292) (i := 3) A442 (m_get1 l Z a0 hw b292 b1_65 b2_65 ((2 : Int32)) mm0 mm2 mm2) (Or.inr ⟨rfl, rfl⟩) rfl (tw hw 45 rfl) (tw hw 46 rfl) (tw hw 48 rfl) (tw hw 47 rfl) (tw hw 4 rfl) (tw hw 49 rfl) (by decide) at_238 rfl (lenOf pd_6 rfl) rfl (Nat.le_of_eq rfl) (by decide) (by decide) (by decide) (by decide) rfl (fun T444 v445 os446 A447 P448 => ?_)
      obtain ⟨rfl, rfl⟩ := P448
      have A449 := A447.cast (k2 := 5) (n2 := 15) (os2 := [(b3, .inr (.int, [(.int mm0), (.int mm1), (.int mm2)])), (b2_65, .inr (.int, ((((([(.int (-1)), (.int (-1)), (.int (-1))].set mm0.toNatClampNeg (.int 0)).set mm1.toNatClampNeg (.int 1)).set mm2.toNatClampNeg (.int 2)).set mm2.toNatClampNeg (.int 1)).set mm1.toNatClampNeg (.int (-1))))), (b415, .inr (.int, [(.int mm0), (.int mm2), (.int mm2)])), (b292, ob0 (.ref b1_65) (.ref b2_65) (.int 2)), (b1_65, .inr (.int, [(.int mm0), (.int mm2), (.int mm2)]))]) rfl rfl rfl
      refine A449.aload (q := 243) at_241 rfl rfl rfl ?_
      refine A449.iconst (q := 244) (v := 1) at_243 rfl rfl ?_
      refine A449.ldI (qn := 245) (i := 2) at_244 rfl (by decide) rfl rfl ?_
      have hc245_450 : mm2 = mm2 := by
        clear hw A0 A2 A4 A6 A7 A9 A10 A12 A13 A291 A293 A297 A299 A303 A305 A309 A311 A315 A317 A410 A412 A414 A416 A418 A419 A421 A422 A424 A425 A427 A428 A429 A433 A435 A436 A440 A442 A447 A449
        rfl
      refine A449.icmpNo (q := 248) at_245 (teq hc245_450).2 rfl ?_
      refine A449.iconst (q := 249) (v := 1) at_248 rfl rfl ?_
      refine A449.goto (q := 253) at_249 (by decide) (by decide) ?_
      refine A449.istore (q := 255) (l' := #[.val (.int x0), .val (.int x1), .val (.int x2), .val (.int x3), .val (.int 3), .val (.int mm0), .val (.int ((1 : Int32) + (x2 &&& (1 : Int32)))), .val (.ref b3), .val (.ref b292), .val (.int 1), .val (.int mm1), .val (.ref b415), .val (.int 2), .val (.int 1)]) at_253 rfl rfl ?_
      refine A449.iload (q := 257) at_255 rfl rfl ?_
      refine A449.ifNo (q := 260) at_257 (by decide) rfl ?_
      refine A449.aload (q := 262) at_260 rfl rfl rfl ?_
      refine A449.iconst (q := 263) (v := 0) at_262 rfl rfl ?_
      have A451 := A449.pick (is := [0, 2, 4, 3, 1]) (os2 := [(b3, .inr (.int, [(.int mm0), (.int mm1), (.int mm2)])), (b415, .inr (.int, [(.int mm0), (.int mm2), (.int mm2)])), (b1_65, .inr (.int, [(.int mm0), (.int mm2), (.int mm2)])), (b292, ob0 (.ref b1_65) (.ref b2_65) (.int 2)), (b2_65, .inr (.int, ((((([(.int (-1)), (.int (-1)), (.int (-1))].set mm0.toNatClampNeg (.int 0)).set mm1.toNatClampNeg (.int 1)).set mm2.toNatClampNeg (.int 2)).set mm2.toNatClampNeg (.int 1)).set mm1.toNatClampNeg (.int (-1)))))]) (by decide) rfl
      refine Here.callV (qn := 266) (os1 := [(b3, .inr (.int, [(.int mm0), (.int mm1), (.int mm2)])), (b415, .inr (.int, [(.int mm0), (.int mm2), (.int mm2)])), (b1_65, .inr (.int, [(.int mm0), (.int mm2), (.int mm2)]))]) (os2 := [(b292, ob0 (.ref b1_65) (.ref b2_65) (.int 2)), (b2_65, .inr (.int, ((((([(.int (-1)), (.int (-1)), (.int (-1))].set mm0.toNatClampNeg (.int 0)).set mm1.toNatClampNeg (.int 1)).set mm2.toNatClampNeg (.int 2)).set mm2.toNatClampNeg (.int 1)).set mm1.toNatClampNeg (.int (-1)))))]) (rest := []) (W := 0) (argsL := [(.int 0)]) (a := b292) (i := 3) A451 (m_place0 l Z a0 hw b292 b1_65 b2_65 ((2 : Int32)) (((((([(.int (-1)), (.int (-1)), (.int (-1))].set mm0.toNatClampNeg (.int 0)).set mm1.toNatClampNeg (.int 1)).set mm2.toNatClampNeg (.int 2)).set mm2.toNatClampNeg (.int 1)).set mm1.toNatClampNeg (.int (-1)))) ((own_val (((((([(.int (-1)), (.int (-1)), (.int (-1))].set mm0.toNatClampNeg (.int 0)).set mm1.toNatClampNeg (.int 1)).set mm2.toNatClampNeg (.int 2)).set mm2.toNatClampNeg (.int 1)).set mm1.toNatClampNeg (.int (-1)))[(0 : Int32).toNatClampNeg]?))) (by rcases hperm with ⟨rfl, rfl, rfl⟩ | ⟨rfl, rfl, rfl⟩ | ⟨rfl, rfl, rfl⟩ | ⟨rfl, rfl, rfl⟩ | ⟨rfl, rfl, rfl⟩ | ⟨rfl, rfl, rfl⟩ <;> decide)) (Or.inr ⟨rfl, rfl⟩) rfl (tw hw 36 rfl) (tw hw 37 rfl) (tw hw 39 rfl) (tw hw 38 rfl) (tw hw 4 rfl) (tw hw 40 rfl) (by decide) at_263 rfl (lenOf pd_6 rfl) rfl (Nat.le_of_eq rfl) (by decide) (by decide) (by decide) (by decide) rfl (fun T452 v453 os454 A455 P456 => ?_)
      obtain ⟨rfl, rfl⟩ := P456
      have A457 := A455.cast (k2 := 5) (n2 := 15) (os2 := [(b3, .inr (.int, [(.int mm0), (.int mm1), (.int mm2)])), (b415, .inr (.int, [(.int mm0), (.int mm2), (.int mm2)])), (b1_65, .inr (.int, [(.int mm0), (.int mm2), (.int mm2)])), (b292, ob0 (.ref b1_65) (.ref b2_65) (.int 2)), (b2_65, .inr (.int, ((((([(.int (-1)), (.int (-1)), (.int (-1))].set mm0.toNatClampNeg (.int 0)).set mm1.toNatClampNeg (.int 1)).set mm2.toNatClampNeg (.int 2)).set mm2.toNatClampNeg (.int 1)).set mm1.toNatClampNeg (.int (-1)))))]) rfl rfl rfl
      refine A457.aload (q := 268) at_266 rfl rfl rfl ?_
      refine A457.iload (q := 270) at_268 rfl rfl ?_
      refine A457.iconst (q := 271) (v := 0) at_270 rfl rfl ?_
      have A458 := A457.pick (is := [0, 2, 3, 4, 1]) (os2 := [(b3, .inr (.int, [(.int mm0), (.int mm1), (.int mm2)])), (b1_65, .inr (.int, [(.int mm0), (.int mm2), (.int mm2)])), (b292, ob0 (.ref b1_65) (.ref b2_65) (.int 2)), (b2_65, .inr (.int, ((((([(.int (-1)), (.int (-1)), (.int (-1))].set mm0.toNatClampNeg (.int 0)).set mm1.toNatClampNeg (.int 1)).set mm2.toNatClampNeg (.int 2)).set mm2.toNatClampNeg (.int 1)).set mm1.toNatClampNeg (.int (-1))))), (b415, .inr (.int, [(.int mm0), (.int mm2), (.int mm2)]))]) (by decide) rfl
      refine Here.callS (qn := 274) (os1 := [(b3, .inr (.int, [(.int mm0), (.int mm1), (.int mm2)])), (b1_65, .inr (.int, [(.int mm0), (.int mm2), (.int mm2)])), (b292, ob0 (.ref b1_65) (.ref b2_65) (.int 2)), (b2_65, .inr (.int, ((((([(.int (-1)), (.int (-1)), (.int (-1))].set mm0.toNatClampNeg (.int 0)).set mm1.toNatClampNeg (.int 1)).set mm2.toNatClampNeg (.int 2)).set mm2.toNatClampNeg (.int 1)).set mm1.toNatClampNeg (.int (-1)))))]) (os2 := [(b415, .inr (.int, [(.int mm0), (.int mm2), (.int mm2)]))]) (rest := [(.int (own_val (((((([(.int (-1)), (.int (-1)), (.int (-1))].set mm0.toNatClampNeg (.int 0)).set mm1.toNatClampNeg (.int 1)).set mm2.toNatClampNeg (.int 2)).set mm2.toNatClampNeg (.int 1)).set mm1.toNatClampNeg (.int (-1)))[(0 : Int32).toNatClampNeg]?)))]) (W := 1) (argsL := [(.ref b415), (.int 2), (.int 0)]) A458 (m_exp2 l Z a0 hw b415 ((0 : Int32)) mm0 mm2 mm2) (Or.inr ⟨rfl, rfl⟩) (tw hw 41 rfl) (tw hw 42 rfl) (tw hw 43 rfl) (tw hw 44 rfl) (by decide) at_271 rfl (lenOf pd_7 rfl) rfl (Nat.le_of_eq rfl) (by decide) (by decide) (by decide) (by decide) rfl (fun T459 v460 os461 A462 P463 => ?_)
      obtain ⟨r_271, rfl, rfl, hq_271⟩ := P463
      have A464 := A462.cast (k2 := 5) (n2 := 15) (os2 := [(b3, .inr (.int, [(.int mm0), (.int mm1), (.int mm2)])), (b1_65, .inr (.int, [(.int mm0), (.int mm2), (.int mm2)])), (b292, ob0 (.ref b1_65) (.ref b2_65) (.int 2)), (b2_65, .inr (.int, ((((([(.int (-1)), (.int (-1)), (.int (-1))].set mm0.toNatClampNeg (.int 0)).set mm1.toNatClampNeg (.int 1)).set mm2.toNatClampNeg (.int 2)).set mm2.toNatClampNeg (.int 1)).set mm1.toNatClampNeg (.int (-1))))), (b415, .inr (.int, [(.int mm0), (.int mm2), (.int mm2)]))]) rfl rfl rfl
      have hc274_465 : (own_val (((((([(.int (-1)), (.int (-1)), (.int (-1))].set mm0.toNatClampNeg (.int 0)).set mm1.toNatClampNeg (.int 1)).set mm2.toNatClampNeg (.int 2)).set mm2.toNatClampNeg (.int 1)).set mm1.toNatClampNeg (.int (-1)))[(0 : Int32).toNatClampNeg]?)) = r_271 := by
        clear hw A0 A2 A4 A6 A7 A9 A10 A12 A13 A291 A293 A297 A299 A303 A305 A309 A311 A315 A317 A410 A412 A414 A416 A418 A419 A421 A422 A424 A425 A427 A428 A429 A433 A435 A436 A440 A442 A447 A449 A451 A455 A457 A458 A462 A464
        rcases hperm with ⟨rfl, rfl, rfl⟩ | ⟨rfl, rfl, rfl⟩ | ⟨rfl, rfl, rfl⟩ | ⟨rfl, rfl, rfl⟩ | ⟨rfl, rfl, rfl⟩ | ⟨rfl, rfl, rfl⟩ <;> rcases hq_271 with ⟨h, rfl⟩ | ⟨h, ⟨h2, rfl⟩ | ⟨h2, rfl⟩⟩ <;> first | decide | (exfalso; revert h; decide) | (exfalso; revert h2; decide)
      refine A464.icmpNo (q := 277) at_274 (teq hc274_465).2 rfl ?_
      refine A464.iconst (q := 278) (v := 1) at_277 rfl rfl ?_
      refine A464.goto (q := 282) at_278 (by decide) (by decide) ?_
      refine A464.istore (q := 284) (l' := #[.val (.int x0), .val (.int x1), .val (.int x2), .val (.int x3), .val (.int 3), .val (.int mm0), .val (.int ((1 : Int32) + (x2 &&& (1 : Int32)))), .val (.ref b3), .val (.ref b292), .val (.int 1), .val (.int mm1), .val (.ref b415), .val (.int 2), .val (.int 1)]) at_282 rfl rfl ?_
      refine A464.iload (q := 286) at_284 rfl rfl ?_
      refine A464.ifNo (q := 289) at_286 (by decide) rfl ?_
      refine A464.aload (q := 291) at_289 rfl rfl rfl ?_
      refine A464.iconst (q := 292) (v := 1) at_291 rfl rfl ?_
      have A466 := A464.pick (is := [0, 1, 4, 2, 3]) (os2 := [(b3, .inr (.int, [(.int mm0), (.int mm1), (.int mm2)])), (b1_65, .inr (.int, [(.int mm0), (.int mm2), (.int mm2)])), (b415, .inr (.int, [(.int mm0), (.int mm2), (.int mm2)])), (b292, ob0 (.ref b1_65) (.ref b2_65) (.int 2)), (b2_65, .inr (.int, ((((([(.int (-1)), (.int (-1)), (.int (-1))].set mm0.toNatClampNeg (.int 0)).set mm1.toNatClampNeg (.int 1)).set mm2.toNatClampNeg (.int 2)).set mm2.toNatClampNeg (.int 1)).set mm1.toNatClampNeg (.int (-1)))))]) (by decide) rfl
      refine Here.callV (qn := 295) (os1 := [(b3, .inr (.int, [(.int mm0), (.int mm1), (.int mm2)])), (b1_65, .inr (.int, [(.int mm0), (.int mm2), (.int mm2)])), (b415, .inr (.int, [(.int mm0), (.int mm2), (.int mm2)]))]) (os2 := [(b292, ob0 (.ref b1_65) (.ref b2_65) (.int 2)), (b2_65, .inr (.int, ((((([(.int (-1)), (.int (-1)), (.int (-1))].set mm0.toNatClampNeg (.int 0)).set mm1.toNatClampNeg (.int 1)).set mm2.toNatClampNeg (.int 2)).set mm2.toNatClampNeg (.int 1)).set mm1.toNatClampNeg (.int (-1)))))]) (rest := []) (W := 0) (argsL := [(.int 1)]) (a := b292) (i := 3) A466 (m_place1 l Z a0 hw b292 b1_65 b2_65 ((2 : Int32)) (((((([(.int (-1)), (.int (-1)), (.int (-1))].set mm0.toNatClampNeg (.int 0)).set mm1.toNatClampNeg (.int 1)).set mm2.toNatClampNeg (.int 2)).set mm2.toNatClampNeg (.int 1)).set mm1.toNatClampNeg (.int (-1)))) ((own_val (((((([(.int (-1)), (.int (-1)), (.int (-1))].set mm0.toNatClampNeg (.int 0)).set mm1.toNatClampNeg (.int 1)).set mm2.toNatClampNeg (.int 2)).set mm2.toNatClampNeg (.int 1)).set mm1.toNatClampNeg (.int (-1)))[(1 : Int32).toNatClampNeg]?))) (by rcases hperm with ⟨rfl, rfl, rfl⟩ | ⟨rfl, rfl, rfl⟩ | ⟨rfl, rfl, rfl⟩ | ⟨rfl, rfl, rfl⟩ | ⟨rfl, rfl, rfl⟩ | ⟨rfl, rfl, rfl⟩ <;> decide)) (Or.inr ⟨rfl, rfl⟩) rfl (tw hw 36 rfl) (tw hw 37 rfl) (tw hw 39 rfl) (tw hw 38 rfl) (tw hw 4 rfl) (tw hw 40 rfl) (by decide) at_292 rfl (lenOf pd_6 rfl) rfl (Nat.le_of_eq rfl) (by decide) (by decide) (by decide) (by decide) rfl (fun T467 v468 os469 A470 P471 => ?_)
      obtain ⟨rfl, rfl⟩ := P471
      have A472 := A470.cast (k2 := 5) (n2 := 15) (os2 := [(b3, .inr (.int, [(.int mm0), (.int mm1), (.int mm2)])), (b1_65, .inr (.int, [(.int mm0), (.int mm2), (.int mm2)])), (b415, .inr (.int, [(.int mm0), (.int mm2), (.int mm2)])), (b292, ob0 (.ref b1_65) (.ref b2_65) (.int 2)), (b2_65, .inr (.int, ((((([(.int (-1)), (.int (-1)), (.int (-1))].set mm0.toNatClampNeg (.int 0)).set mm1.toNatClampNeg (.int 1)).set mm2.toNatClampNeg (.int 2)).set mm2.toNatClampNeg (.int 1)).set mm1.toNatClampNeg (.int (-1)))))]) rfl rfl rfl
      refine A472.aload (q := 297) at_295 rfl rfl rfl ?_
      refine A472.iload (q := 299) at_297 rfl rfl ?_
      refine A472.iconst (q := 300) (v := 1) at_299 rfl rfl ?_
      have A473 := A472.pick (is := [0, 1, 3, 4, 2]) (os2 := [(b3, .inr (.int, [(.int mm0), (.int mm1), (.int mm2)])), (b1_65, .inr (.int, [(.int mm0), (.int mm2), (.int mm2)])), (b292, ob0 (.ref b1_65) (.ref b2_65) (.int 2)), (b2_65, .inr (.int, ((((([(.int (-1)), (.int (-1)), (.int (-1))].set mm0.toNatClampNeg (.int 0)).set mm1.toNatClampNeg (.int 1)).set mm2.toNatClampNeg (.int 2)).set mm2.toNatClampNeg (.int 1)).set mm1.toNatClampNeg (.int (-1))))), (b415, .inr (.int, [(.int mm0), (.int mm2), (.int mm2)]))]) (by decide) rfl
      refine Here.callS (qn := 303) (os1 := [(b3, .inr (.int, [(.int mm0), (.int mm1), (.int mm2)])), (b1_65, .inr (.int, [(.int mm0), (.int mm2), (.int mm2)])), (b292, ob0 (.ref b1_65) (.ref b2_65) (.int 2)), (b2_65, .inr (.int, ((((([(.int (-1)), (.int (-1)), (.int (-1))].set mm0.toNatClampNeg (.int 0)).set mm1.toNatClampNeg (.int 1)).set mm2.toNatClampNeg (.int 2)).set mm2.toNatClampNeg (.int 1)).set mm1.toNatClampNeg (.int (-1)))))]) (os2 := [(b415, .inr (.int, [(.int mm0), (.int mm2), (.int mm2)]))]) (rest := [(.int (own_val (((((([(.int (-1)), (.int (-1)), (.int (-1))].set mm0.toNatClampNeg (.int 0)).set mm1.toNatClampNeg (.int 1)).set mm2.toNatClampNeg (.int 2)).set mm2.toNatClampNeg (.int 1)).set mm1.toNatClampNeg (.int (-1)))[(1 : Int32).toNatClampNeg]?)))]) (W := 1) (argsL := [(.ref b415), (.int 2), (.int 1)]) A473 (m_exp2 l Z a0 hw b415 ((1 : Int32)) mm0 mm2 mm2) (Or.inr ⟨rfl, rfl⟩) (tw hw 41 rfl) (tw hw 42 rfl) (tw hw 43 rfl) (tw hw 44 rfl) (by decide) at_300 rfl (lenOf pd_7 rfl) rfl (Nat.le_of_eq rfl) (by decide) (by decide) (by decide) (by decide) rfl (fun T474 v475 os476 A477 P478 => ?_)
      obtain ⟨r_300, rfl, rfl, hq_300⟩ := P478
      have A479 := A477.cast (k2 := 5) (n2 := 15) (os2 := [(b3, .inr (.int, [(.int mm0), (.int mm1), (.int mm2)])), (b1_65, .inr (.int, [(.int mm0), (.int mm2), (.int mm2)])), (b292, ob0 (.ref b1_65) (.ref b2_65) (.int 2)), (b2_65, .inr (.int, ((((([(.int (-1)), (.int (-1)), (.int (-1))].set mm0.toNatClampNeg (.int 0)).set mm1.toNatClampNeg (.int 1)).set mm2.toNatClampNeg (.int 2)).set mm2.toNatClampNeg (.int 1)).set mm1.toNatClampNeg (.int (-1))))), (b415, .inr (.int, [(.int mm0), (.int mm2), (.int mm2)]))]) rfl rfl rfl
      have hc303_480 : (own_val (((((([(.int (-1)), (.int (-1)), (.int (-1))].set mm0.toNatClampNeg (.int 0)).set mm1.toNatClampNeg (.int 1)).set mm2.toNatClampNeg (.int 2)).set mm2.toNatClampNeg (.int 1)).set mm1.toNatClampNeg (.int (-1)))[(1 : Int32).toNatClampNeg]?)) = r_300 := by
        clear hw A0 A2 A4 A6 A7 A9 A10 A12 A13 A291 A293 A297 A299 A303 A305 A309 A311 A315 A317 A410 A412 A414 A416 A418 A419 A421 A422 A424 A425 A427 A428 A429 A433 A435 A436 A440 A442 A447 A449 A451 A455 A457 A458 A462 A464 A466 A470 A472 A473 A477 A479
        rcases hperm with ⟨rfl, rfl, rfl⟩ | ⟨rfl, rfl, rfl⟩ | ⟨rfl, rfl, rfl⟩ | ⟨rfl, rfl, rfl⟩ | ⟨rfl, rfl, rfl⟩ | ⟨rfl, rfl, rfl⟩ <;> rcases hq_300 with ⟨h, rfl⟩ | ⟨h, ⟨h2, rfl⟩ | ⟨h2, rfl⟩⟩ <;> first | decide | (exfalso; revert h; decide) | (exfalso; revert h2; decide)
      refine A479.icmpNo (q := 306) at_303 (teq hc303_480).2 rfl ?_
      refine A479.iconst (q := 307) (v := 1) at_306 rfl rfl ?_
      refine A479.goto (q := 311) at_307 (by decide) (by decide) ?_
      refine A479.istore (q := 313) (l' := #[.val (.int x0), .val (.int x1), .val (.int x2), .val (.int x3), .val (.int 3), .val (.int mm0), .val (.int ((1 : Int32) + (x2 &&& (1 : Int32)))), .val (.ref b3), .val (.ref b292), .val (.int 1), .val (.int mm1), .val (.ref b415), .val (.int 2), .val (.int 1)]) at_311 rfl rfl ?_
      refine A479.iload (q := 315) at_313 rfl rfl ?_
      refine A479.ifNo (q := 318) at_315 (by decide) rfl ?_
      refine A479.aload (q := 320) at_318 rfl rfl rfl ?_
      refine A479.iconst (q := 321) (v := 2) at_320 rfl rfl ?_
      have A481 := A479.pick (is := [0, 1, 4, 2, 3]) (os2 := [(b3, .inr (.int, [(.int mm0), (.int mm1), (.int mm2)])), (b1_65, .inr (.int, [(.int mm0), (.int mm2), (.int mm2)])), (b415, .inr (.int, [(.int mm0), (.int mm2), (.int mm2)])), (b292, ob0 (.ref b1_65) (.ref b2_65) (.int 2)), (b2_65, .inr (.int, ((((([(.int (-1)), (.int (-1)), (.int (-1))].set mm0.toNatClampNeg (.int 0)).set mm1.toNatClampNeg (.int 1)).set mm2.toNatClampNeg (.int 2)).set mm2.toNatClampNeg (.int 1)).set mm1.toNatClampNeg (.int (-1)))))]) (by decide) rfl
      refine Here.callV (qn := 324) (os1 := [(b3, .inr (.int, [(.int mm0), (.int mm1), (.int mm2)])), (b1_65, .inr (.int, [(.int mm0), (.int mm2), (.int mm2)])), (b415, .inr (.int, [(.int mm0), (.int mm2), (.int mm2)]))]) (os2 := [(b292, ob0 (.ref b1_65) (.ref b2_65) (.int 2)), (b2_65, .inr (.int, ((((([(.int (-1)), (.int (-1)), (.int (-1))].set mm0.toNatClampNeg (.int 0)).set mm1.toNatClampNeg (.int 1)).set mm2.toNatClampNeg (.int 2)).set mm2.toNatClampNeg (.int 1)).set mm1.toNatClampNeg (.int (-1)))))]) (rest := []) (W := 0) (argsL := [(.int 2)]) (a := b292) (i := 3) A481 (m_place2 l Z a0 hw b292 b1_65 b2_65 ((2 : Int32)) (((((([(.int (-1)), (.int (-1)), (.int (-1))].set mm0.toNatClampNeg (.int 0)).set mm1.toNatClampNeg (.int 1)).set mm2.toNatClampNeg (.int 2)).set mm2.toNatClampNeg (.int 1)).set mm1.toNatClampNeg (.int (-1)))) ((own_val (((((([(.int (-1)), (.int (-1)), (.int (-1))].set mm0.toNatClampNeg (.int 0)).set mm1.toNatClampNeg (.int 1)).set mm2.toNatClampNeg (.int 2)).set mm2.toNatClampNeg (.int 1)).set mm1.toNatClampNeg (.int (-1)))[(2 : Int32).toNatClampNeg]?))) (by rcases hperm with ⟨rfl, rfl, rfl⟩ | ⟨rfl, rfl, rfl⟩ | ⟨rfl, rfl, rfl⟩ | ⟨rfl, rfl, rfl⟩ | ⟨rfl, rfl, rfl⟩ | ⟨rfl, rfl, rfl⟩ <;> decide)) (Or.inr ⟨rfl, rfl⟩) rfl (tw hw 36 rfl) (tw hw 37 rfl) (tw hw 39 rfl) (tw hw 38 rfl) (tw hw 4 rfl) (tw hw 40 rfl) (by decide) at_321 rfl (lenOf pd_6 rfl) rfl (Nat.le_of_eq rfl) (by decide) (by decide) (by decide) (by decide) rfl (fun T482 v483 os484 A485 P486 => ?_)
      obtain ⟨rfl, rfl⟩ := P486
      have A487 := A485.cast (k2 := 5) (n2 := 15) (os2 := [(b3, .inr (.int, [(.int mm0), (.int mm1), (.int mm2)])), (b1_65, .inr (.int, [(.int mm0), (.int mm2), (.int mm2)])), (b415, .inr (.int, [(.int mm0), (.int mm2), (.int mm2)])), (b292, ob0 (.ref b1_65) (.ref b2_65) (.int 2)), (b2_65, .inr (.int, ((((([(.int (-1)), (.int (-1)), (.int (-1))].set mm0.toNatClampNeg (.int 0)).set mm1.toNatClampNeg (.int 1)).set mm2.toNatClampNeg (.int 2)).set mm2.toNatClampNeg (.int 1)).set mm1.toNatClampNeg (.int (-1)))))]) rfl rfl rfl
      refine A487.aload (q := 326) at_324 rfl rfl rfl ?_
      refine A487.iload (q := 328) at_326 rfl rfl ?_
      refine A487.iconst (q := 329) (v := 2) at_328 rfl rfl ?_
      have A488 := A487.pick (is := [0, 1, 3, 4, 2]) (os2 := [(b3, .inr (.int, [(.int mm0), (.int mm1), (.int mm2)])), (b1_65, .inr (.int, [(.int mm0), (.int mm2), (.int mm2)])), (b292, ob0 (.ref b1_65) (.ref b2_65) (.int 2)), (b2_65, .inr (.int, ((((([(.int (-1)), (.int (-1)), (.int (-1))].set mm0.toNatClampNeg (.int 0)).set mm1.toNatClampNeg (.int 1)).set mm2.toNatClampNeg (.int 2)).set mm2.toNatClampNeg (.int 1)).set mm1.toNatClampNeg (.int (-1))))), (b415, .inr (.int, [(.int mm0), (.int mm2), (.int mm2)]))]) (by decide) rfl
      refine Here.callS (qn := 332) (os1 := [(b3, .inr (.int, [(.int mm0), (.int mm1), (.int mm2)])), (b1_65, .inr (.int, [(.int mm0), (.int mm2), (.int mm2)])), (b292, ob0 (.ref b1_65) (.ref b2_65) (.int 2)), (b2_65, .inr (.int, ((((([(.int (-1)), (.int (-1)), (.int (-1))].set mm0.toNatClampNeg (.int 0)).set mm1.toNatClampNeg (.int 1)).set mm2.toNatClampNeg (.int 2)).set mm2.toNatClampNeg (.int 1)).set mm1.toNatClampNeg (.int (-1)))))]) (os2 := [(b415, .inr (.int, [(.int mm0), (.int mm2), (.int mm2)]))]) (rest := [(.int (own_val (((((([(.int (-1)), (.int (-1)), (.int (-1))].set mm0.toNatClampNeg (.int 0)).set mm1.toNatClampNeg (.int 1)).set mm2.toNatClampNeg (.int 2)).set mm2.toNatClampNeg (.int 1)).set mm1.toNatClampNeg (.int (-1)))[(2 : Int32).toNatClampNeg]?)))]) (W := 1) (argsL := [(.ref b415), (.int 2), (.int 2)]) A488 (m_exp2 l Z a0 hw b415 ((2 : Int32)) mm0 mm2 mm2) (Or.inr ⟨rfl, rfl⟩) (tw hw 41 rfl) (tw hw 42 rfl) (tw hw 43 rfl) (tw hw 44 rfl) (by decide) at_329 rfl (lenOf pd_7 rfl) rfl (Nat.le_of_eq rfl) (by decide) (by decide) (by decide) (by decide) rfl (fun T489 v490 os491 A492 P493 => ?_)
      obtain ⟨r_329, rfl, rfl, hq_329⟩ := P493
      have A494 := A492.cast (k2 := 5) (n2 := 15) (os2 := [(b3, .inr (.int, [(.int mm0), (.int mm1), (.int mm2)])), (b1_65, .inr (.int, [(.int mm0), (.int mm2), (.int mm2)])), (b292, ob0 (.ref b1_65) (.ref b2_65) (.int 2)), (b2_65, .inr (.int, ((((([(.int (-1)), (.int (-1)), (.int (-1))].set mm0.toNatClampNeg (.int 0)).set mm1.toNatClampNeg (.int 1)).set mm2.toNatClampNeg (.int 2)).set mm2.toNatClampNeg (.int 1)).set mm1.toNatClampNeg (.int (-1))))), (b415, .inr (.int, [(.int mm0), (.int mm2), (.int mm2)]))]) rfl rfl rfl
      have hc332_495 : (own_val (((((([(.int (-1)), (.int (-1)), (.int (-1))].set mm0.toNatClampNeg (.int 0)).set mm1.toNatClampNeg (.int 1)).set mm2.toNatClampNeg (.int 2)).set mm2.toNatClampNeg (.int 1)).set mm1.toNatClampNeg (.int (-1)))[(2 : Int32).toNatClampNeg]?)) = r_329 := by
        clear hw A0 A2 A4 A6 A7 A9 A10 A12 A13 A291 A293 A297 A299 A303 A305 A309 A311 A315 A317 A410 A412 A414 A416 A418 A419 A421 A422 A424 A425 A427 A428 A429 A433 A435 A436 A440 A442 A447 A449 A451 A455 A457 A458 A462 A464 A466 A470 A472 A473 A477 A479 A481 A485 A487 A488 A492 A494
        rcases hperm with ⟨rfl, rfl, rfl⟩ | ⟨rfl, rfl, rfl⟩ | ⟨rfl, rfl, rfl⟩ | ⟨rfl, rfl, rfl⟩ | ⟨rfl, rfl, rfl⟩ | ⟨rfl, rfl, rfl⟩ <;> rcases hq_329 with ⟨h, rfl⟩ | ⟨h, ⟨h2, rfl⟩ | ⟨h2, rfl⟩⟩ <;> first | decide | (exfalso; revert h; decide) | (exfalso; revert h2; decide)
      refine A494.icmpNo (q := 335) at_332 (teq hc332_495).2 rfl ?_
      refine A494.iconst (q := 336) (v := 1) at_335 rfl rfl ?_
      refine A494.goto (q := 340) at_336 (by decide) (by decide) ?_
      refine A494.istore (q := 342) (l' := #[.val (.int x0), .val (.int x1), .val (.int x2), .val (.int x3), .val (.int 3), .val (.int mm0), .val (.int ((1 : Int32) + (x2 &&& (1 : Int32)))), .val (.ref b3), .val (.ref b292), .val (.int 1), .val (.int mm1), .val (.ref b415), .val (.int 2), .val (.int 1)]) at_340 rfl rfl ?_
      refine A494.iload (q := 344) at_342 rfl rfl ?_
      exact A494.retN (by simp) at_344 (by decide) (by decide) ⟨rfl, trivial⟩
    · rw [ht]
      show Wp _ _ _ _ _ _ _ _ _ _ T312 (mkF m 116 #[.val (.int x0), .val (.int x1), .val (.int x2), .val (.int x3), .val (.int 3), .val (.int mm0), .val (.int ((1 : Int32) + (x2 &&& (1 : Int32)))), .val (.ref b3), .val (.ref b292), .unset, .unset, .unset, .unset, .unset] [(.int 2)])
      refine A317.istore (q := 118) (l' := #[.val (.int x0), .val (.int x1), .val (.int x2), .val (.int x3), .val (.int 3), .val (.int mm0), .val (.int ((1 : Int32) + (x2 &&& (1 : Int32)))), .val (.ref b3), .val (.ref b292), .val (.int 2), .unset, .unset, .unset, .unset]) at_116 rfl rfl ?_
      refine A317.aload (q := 120) at_118 rfl rfl rfl ?_
      refine A317.iload (q := 122) at_120 rfl rfl ?_
      refine A317.ldI (qn := 123) (i := 0) at_122 rfl (by decide) rfl rfl ?_
      refine A317.istore (q := 125) (l' := #[.val (.int x0), .val (.int x1), .val (.int x2), .val (.int x3), .val (.int 3), .val (.int mm0), .val (.int ((1 : Int32) + (x2 &&& (1 : Int32)))), .val (.ref b3), .val (.ref b292), .val (.int 2), .val (.int mm2), .unset, .unset, .unset]) at_123 rfl rfl ?_
      refine A317.aload (q := 127) at_125 rfl rfl rfl ?_
      refine A317.iload (q := 129) at_127 rfl rfl ?_
      refine Here.callV (qn := 132) (os1 := [(b3, .inr (.int, [(.int mm0), (.int mm1), (.int mm2)]))]) (os2 := [(b292, ob0 (.ref b1_65) (.ref b2_65) (.int 3)), (b1_65, .inr (.int, [(.int mm0), (.int mm1), (.int mm2)])), (b2_65, .inr (.int, ((([(.int (-1)), (.int (-1)), (.int (-1))].set mm0.toNatClampNeg (.int 0)).set mm1.toNatClampNeg (.int 1)).set mm2.toNatClampNeg (.int 2))))]) (rest := []) (W := 0) (argsL := [(.int mm2)]) (a := b292) (i := 1) A317 (m_rem32 l Z a0 hw b292 b1_65 b2_65 mm2 mm0 mm1 mm2 (((([(.int (-1)), (.int (-1)), (.int (-1))].set mm0.toNatClampNeg (.int 0)).set mm1.toNatClampNeg (.int 1)).set mm2.toNatClampNeg (.int 2))) (by rcases hperm with ⟨rfl, rfl, rfl⟩ | ⟨rfl, rfl, rfl⟩ | ⟨rfl, rfl, rfl⟩ | ⟨rfl, rfl, rfl⟩ | ⟨rfl, rfl, rfl⟩ | ⟨rfl, rfl, rfl⟩ <;> decide) (by rcases hperm with ⟨rfl, rfl, rfl⟩ | ⟨rfl, rfl, rfl⟩ | ⟨rfl, rfl, rfl⟩ | ⟨rfl, rfl, rfl⟩ | ⟨rfl, rfl, rfl⟩ | ⟨rfl, rfl, rfl⟩ <;> decide) (by rcases hperm with ⟨rfl, rfl, rfl⟩ | ⟨rfl, rfl, rfl⟩ | ⟨rfl, rfl, rfl⟩ | ⟨rfl, rfl, rfl⟩ | ⟨rfl, rfl, rfl⟩ | ⟨rfl, rfl, rfl⟩ <;> decide) (by rcases hperm with ⟨rfl, rfl, rfl⟩ | ⟨rfl, rfl, rfl⟩ | ⟨rfl, rfl, rfl⟩ | ⟨rfl, rfl, rfl⟩ | ⟨rfl, rfl, rfl⟩ | ⟨rfl, rfl, rfl⟩ <;> decide) (by rcases hperm with ⟨rfl, rfl, rfl⟩ | ⟨rfl, rfl, rfl⟩ | ⟨rfl, rfl, rfl⟩ | ⟨rfl, rfl, rfl⟩ | ⟨rfl, rfl, rfl⟩ | ⟨rfl, rfl, rfl⟩ <;> decide)) (Or.inr ⟨rfl, rfl⟩) rfl (tw hw 26 rfl) (tw hw 27 rfl) (tw hw 29 rfl) (tw hw 28 rfl) (tw hw 4 rfl) (tw hw 30 rfl) (by decide) at_129 rfl (lenOf pd_4 rfl) rfl (Nat.le_of_eq rfl) (by decide) (by decide) (by decide) (by decide) rfl (fun T496 v497 os498 A499 P500 => ?_)
      obtain ⟨rfl, rfl⟩ := P500
      have A501 := A499.cast (k2 := 4) (n2 := 12) (os2 := [(b3, .inr (.int, [(.int mm0), (.int mm1), (.int mm2)])), (b292, ob0 (.ref b1_65) (.ref b2_65) (.int 2)), (b1_65, .inr (.int, [(.int mm0), (.int mm1), (.int mm2)])), (b2_65, .inr (.int, ((((([(.int (-1)), (.int (-1)), (.int (-1))].set mm0.toNatClampNeg (.int 0)).set mm1.toNatClampNeg (.int 1)).set mm2.toNatClampNeg (.int 2)).set mm2.toNatClampNeg (.int 2)).set mm2.toNatClampNeg (.int (-1)))))]) rfl rfl rfl
      refine A501.iconst (q := 133) (v := 3) at_132 rfl rfl ?_
      refine A501.newP (qn := 135) (cap := 3) (tw hw 1 rfl) at_133 (by decide) (by decide) (by decide) (by decide) (by decide) rfl (fun T502 b504 A503 => ?_)
      have A505 := A503.cast (k2 := 5) (n2 := 15) (os2 := [(b3, .inr (.int, [(.int mm0), (.int mm1), (.int mm2)])), (b292, ob0 (.ref b1_65) (.ref b2_65) (.int 2)), (b1_65, .inr (.int, [(.int mm0), (.int mm1), (.int mm2)])), (b2_65, .inr (.int, ((((([(.int (-1)), (.int (-1)), (.int (-1))].set mm0.toNatClampNeg (.int 0)).set mm1.toNatClampNeg (.int 1)).set mm2.toNatClampNeg (.int 2)).set mm2.toNatClampNeg (.int 2)).set mm2.toNatClampNeg (.int (-1))))), (b504, .inr (.int, [(.int 0), (.int 0), (.int 0)]))]) rfl rfl rfl
      refine A505.astore (q := 137) (l' := #[.val (.int x0), .val (.int x1), .val (.int x2), .val (.int x3), .val (.int 3), .val (.int mm0), .val (.int ((1 : Int32) + (x2 &&& (1 : Int32)))), .val (.ref b3), .val (.ref b292), .val (.int 2), .val (.int mm2), .val (.ref b504), .unset, .unset]) at_135 rfl rfl rfl ?_
      refine A505.aload (q := 139) at_137 rfl rfl rfl ?_
      refine A505.iconst (q := 140) (v := 0) at_139 rfl rfl ?_
      refine A505.aload (q := 142) at_140 rfl rfl rfl ?_
      refine A505.iconst (q := 143) (v := 0) at_142 rfl rfl ?_
      refine A505.ldI (qn := 144) (i := 0) at_143 rfl (by decide) rfl rfl ?_
      refine A505.stI (qn := 145) (i := 4) at_144 rfl (by decide) (show (0 : Int32).toNatClampNeg < 3 from by decide) rfl rfl (fun T506 A507 => ?_)
      have A508 := A507.cast (k2 := 5) (n2 := 15) (os2 := [(b3, .inr (.int, [(.int mm0), (.int mm1), (.int mm2)])), (b292, ob0 (.ref b1_65) (.ref b2_65) (.int 2)), (b1_65, .inr (.int, [(.int mm0), (.int mm1), (.int mm2)])), (b2_65, .inr (.int, ((((([(.int (-1)), (.int (-1)), (.int (-1))].set mm0.toNatClampNeg (.int 0)).set mm1.toNatClampNeg (.int 1)).set mm2.toNatClampNeg (.int 2)).set mm2.toNatClampNeg (.int 2)).set mm2.toNatClampNeg (.int (-1))))), (b504, .inr (.int, [(.int mm0), (.int 0), (.int 0)]))]) rfl rfl rfl
      refine A508.aload (q := 147) at_145 rfl rfl rfl ?_
      refine A508.iconst (q := 148) (v := 1) at_147 rfl rfl ?_
      refine A508.aload (q := 150) at_148 rfl rfl rfl ?_
      refine A508.iconst (q := 151) (v := 1) at_150 rfl rfl ?_
      refine A508.ldI (qn := 152) (i := 0) at_151 rfl (by decide) rfl rfl ?_
      refine A508.stI (qn := 153) (i := 4) at_152 rfl (by decide) (show (1 : Int32).toNatClampNeg < 3 from by decide) rfl rfl (fun T509 A510 => ?_)
      have A511 := A510.cast (k2 := 5) (n2 := 15) (os2 := [(b3, .inr (.int, [(.int mm0), (.int mm1), (.int mm2)])), (b292, ob0 (.ref b1_65) (.ref b2_65) (.int 2)), (b1_65, .inr (.int, [(.int mm0), (.int mm1), (.int mm2)])), (b2_65, .inr (.int, ((((([(.int (-1)), (.int (-1)), (.int (-1))].set mm0.toNatClampNeg (.int 0)).set mm1.toNatClampNeg (.int 1)).set mm2.toNatClampNeg (.int 2)).set mm2.toNatClampNeg (.int 2)).set mm2.toNatClampNeg (.int (-1))))), (b504, .inr (.int, [(.int mm0), (.int mm1), (.int 0)]))]) rfl rfl rfl
      refine A511.aload (q := 155) at_153 rfl rfl rfl ?_
      refine A511.iconst (q := 156) (v := 2) at_155 rfl rfl ?_
      refine A511.aload (q := 158) at_156 rfl rfl rfl ?_
      refine A511.iconst (q := 159) (v := 2) at_158 rfl rfl ?_
      refine A511.ldI (qn := 160) (i := 0) at_159 rfl (by decide) rfl rfl ?_
      refine A511.stI (qn := 161) (i := 4) at_160 rfl (by decide) (show (2 : Int32).toNatClampNeg < 3 from by decide) rfl rfl (fun T512 A513 => ?_)
      have A514 := A513.cast (k2 := 5) (n2 := 15) (os2 := [(b3, .inr (.int, [(.int mm0), (.int mm1), (.int mm2)])), (b292, ob0 (.ref b1_65) (.ref b2_65) (.int 2)), (b1_65, .inr (.int, [(.int mm0), (.int mm1), (.int mm2)])), (b2_65, .inr (.int, ((((([(.int (-1)), (.int (-1)), (.int (-1))].set mm0.toNatClampNeg (.int 0)).set mm1.toNatClampNeg (.int 1)).set mm2.toNatClampNeg (.int 2)).set mm2.toNatClampNeg (.int 2)).set mm2.toNatClampNeg (.int (-1))))), (b504, .inr (.int, [(.int mm0), (.int mm1), (.int mm2)]))]) rfl rfl rfl
      refine A514.iload (q := 163) at_161 rfl rfl ?_
      refine A514.iconst (q := 164) (v := 1) at_163 rfl rfl ?_
      refine A514.isub (q := 165) at_164 rfl ?_
      refine Wp.top (v' := (.int 2)) rfl ?_
      refine A514.istore (q := 167) (l' := #[.val (.int x0), .val (.int x1), .val (.int x2), .val (.int x3), .val (.int 3), .val (.int mm0), .val (.int ((1 : Int32) + (x2 &&& (1 : Int32)))), .val (.ref b3), .val (.ref b292), .val (.int 2), .val (.int mm2), .val (.ref b504), .val (.int 2), .unset]) at_165 rfl rfl ?_
      refine A514.aload (q := 169) at_167 rfl rfl rfl ?_
      refine A514.iload (q := 171) at_169 rfl rfl ?_
      refine A514.aload (q := 173) at_171 rfl rfl rfl ?_
      refine A514.iload (q := 175) at_173 rfl rfl ?_
      refine A514.ldI (qn := 176) (i := 0) at_175 rfl (by decide) rfl rfl ?_
      refine A514.stI (qn := 177) (i := 4) at_176 rfl (by decide) (show (2 : Int32).toNatClampNeg < 3 from by decide) rfl rfl (fun T515 A516 => ?_)
      have A517 := A516.cast (k2 := 5) (n2 := 15) (os2 := [(b3, .inr (.int, [(.int mm0), (.int mm1), (.int mm2)])), (b292, ob0 (.ref b1_65) (.ref b2_65) (.int 2)), (b1_65, .inr (.int, [(.int mm0), (.int mm1), (.int mm2)])), (b2_65, .inr (.int, ((((([(.int (-1)), (.int (-1)), (.int (-1))].set mm0.toNatClampNeg (.int 0)).set mm1.toNatClampNeg (.int 1)).set mm2.toNatClampNeg (.int 2)).set mm2.toNatClampNeg (.int 2)).set mm2.toNatClampNeg (.int (-1))))), (b504, .inr (.int, [(.int mm0), (.int mm1), (.int mm2)]))]) rfl rfl rfl
      refine A517.aload (q := 179) at_177 rfl rfl rfl ?_
      have A518 := A517.pick (is := [0, 2, 3, 4, 1]) (os2 := [(b3, .inr (.int, [(.int mm0), (.int mm1), (.int mm2)])), (b1_65, .inr (.int, [(.int mm0), (.int mm1), (.int mm2)])), (b2_65, .inr (.int, ((((([(.int (-1)), (.int (-1)), (.int (-1))].set mm0.toNatClampNeg (.int 0)).set mm1.toNatClampNeg (.int 1)).set mm2.toNatClampNeg (.int 2)).set mm2.toNatClampNeg (.int 2)).set mm2.toNatClampNeg (.int (-1))))), (b504, .inr (.int, [(.int mm0), (.int mm1), (.int mm2)])), (b292, ob0 (.ref b1_65) (.ref b2_65) (.int 2))]) (by decide) rfl
      refine Here.callV (qn := 182) (os1 := [(b3, .inr (.int, [(.int mm0), (.int mm1), (.int mm2)])), (b1_65, .inr (.int, [(.int mm0), (.int mm1), (.int mm2)])), (b2_65, .inr (.int, ((((([(.int (-1)), (.int (-1)), (.int (-1))].set mm0.toNatClampNeg (.int 0)).set mm1.toNatClampNeg (.int 1)).set mm2.toNatClampNeg (.int 2)).set mm2.toNatClampNeg (.int 2)).set mm2.toNatClampNeg (.int (-1))))), (b504, .inr (.int, [(.int mm0), (.int mm1), (.int mm2)]))]) (os2 := [(b292, ob0 (.ref b1_65) (.ref b2_65) (.int 2))]) (rest := []) (W := 0) (argsL := []) (a := b292) (i := 4) A518 (m_size l Z a0 hw b292 b1_65 b2_65 ((2 : Int32))) (Or.inr ⟨rfl, rfl⟩) rfl (tw hw 31 rfl) (tw hw 32 rfl) (tw hw 34 rfl) (tw hw 33 rfl) (tw hw 4 rfl) (tw hw 35 rfl) (by decide) at_179 rfl (lenOf pd_5 rfl) rfl (Nat.le_of_eq rfl) (by decide) (by decide) (by decide) (by decide) rfl (fun T519 v520 os521 A522 P523 => ?_)
      obtain ⟨rfl, rfl⟩ := P523
      have A524 := A522.cast (k2 := 5) (n2 := 15) (os2 := [(b3, .inr (.int, [(.int mm0), (.int mm1), (.int mm2)])), (b1_65, .inr (.int, [(.int mm0), (.int mm1), (.int mm2)])), (b2_65, .inr (.int, ((((([(.int (-1)), (.int (-1)), (.int (-1))].set mm0.toNatClampNeg (.int 0)).set mm1.toNatClampNeg (.int 1)).set mm2.toNatClampNeg (.int 2)).set mm2.toNatClampNeg (.int 2)).set mm2.toNatClampNeg (.int (-1))))), (b504, .inr (.int, [(.int mm0), (.int mm1), (.int mm2)])), (b292, ob0 (.ref b1_65) (.ref b2_65) (.int 2))]) rfl rfl rfl
      refine A524.iload (q := 184) at_182 rfl rfl ?_
      refine A524.icmpNo (q := 187) at_184 (by decide) rfl ?_
      refine A524.iconst (q := 188) (v := 1) at_187 rfl rfl ?_
      refine A524.goto (q := 192) at_188 (by decide) (by decide) ?_
      refine A524.istore (q := 194) (l' := #[.val (.int x0), .val (.int x1), .val (.int x2), .val (.int x3), .val (.int 3), .val (.int mm0), .val (.int ((1 : Int32) + (x2 &&& (1 : Int32)))), .val (.ref b3), .val (.ref b292), .val (.int 2), .val (.int mm2), .val (.ref b504), .val (.int 2), .val (.int 1)]) at_192 rfl rfl ?_
      refine A524.iload (q := 196) at_194 rfl rfl ?_
      refine A524.ifNo (q := 199) at_196 (by decide) rfl ?_
      refine A524.iload (q := 201) at_199 rfl rfl ?_
      refine A524.ifNo (q := 204) at_201 (by decide) rfl ?_
      refine A524.aload (q := 206) at_204 rfl rfl rfl ?_
      refine A524.iconst (q := 207) (v := 0) at_206 rfl rfl ?_
      have A525 := A524.pick (is := [0, 2, 3, 4, 1]) (os2 := [(b3, .inr (.int, [(.int mm0), (.int mm1), (.int mm2)])), (b2_65, .inr (.int, ((((([(.int (-1)), (.int (-1)), (.int (-1))].set mm0.toNatClampNeg (.int 0)).set mm1.toNatClampNeg (.int 1)).set mm2.toNatClampNeg (.int 2)).set mm2.toNatClampNeg (.int 2)).set mm2.toNatClampNeg (.int (-1))))), (b504, .inr (.int, [(.int mm0), (.int mm1), (.int mm2)])), (b292, ob0 (.ref b1_65) (.ref b2_65) (.int 2)), (b1_65, .inr (.int, [(.int mm0), (.int mm1), (.int mm2)]))]) (by decide) rfl
      refine Here.callV (qn := 210) (os1 := [(b3, .inr (.int, [(.int mm0), (.int mm1), (.int mm2)])), (b2_65, .inr (.int, ((((([(.int (-1)), (.int (-1)), (.int (-1))].set mm0.toNatClampNeg (.int 0)).set mm1.toNatClampNeg (.int 1)).set mm2.toNatClampNeg (.int 2)).set mm2.toNatClampNeg (.int 2)).set mm2.toNatClampNeg (.int (-1))))), (b504, .inr (.int, [(.int mm0), (.int mm1), (.int mm2)]))]) (os2 := [(b292, ob0 (.ref b1_65) (.ref b2_65) (.int 2)), (b1_65, .inr (.int, [(.int mm0), (.int mm1), (.int mm2)]))]) (rest := []) (W := 0) (argsL := [(.int 0)]) (a := b292) (i := 3) A525 (m_get0 l Z a0 hw b292 b1_65 b2_65 ((2 : Int32)) mm0 mm1 mm2) (Or.inr ⟨rfl, rfl⟩) rfl (tw hw 45 rfl) (tw hw 46 rfl) (tw hw 48 rfl) (tw hw 47 rfl) (tw hw 4 rfl) (tw hw 49 rfl) (by decide) at_207 rfl (lenOf pd_6 rfl) rfl (Nat.le_of_eq rfl) (by decide) (by decide) (by decide) (by decide) rfl (fun T526 v527 os528 A529 P530 => ?_)
      obtain ⟨rfl, rfl⟩ := P530
      have A531 := A529.cast (k2 := 5) (n2 := 15) (os2 := [(b3, .inr (.int, [(.int mm0), (.int mm1), (.int mm2)])), (b2_65, .inr (.int, ((((([(.int (-1)), (.int (-1)), (.int (-1))].set mm0.toNatClampNeg (.int 0)).set mm1.toNatClampNeg (.int 1)).set mm2.toNatClampNeg (.int 2)).set mm2.toNatClampNeg (.int 2)).set mm2.toNatClampNeg (.int (-1))))), (b504, .inr (.int, [(.int mm0), (.int mm1), (.int mm2)])), (b292, ob0 (.ref b1_65) (.ref b2_65) (.int 2)), (b1_65, .inr (.int, [(.int mm0), (.int mm1), (.int mm2)]))]) rfl rfl rfl
      refine A531.aload (q := 212) at_210 rfl rfl rfl ?_
      refine A531.iconst (q := 213) (v := 0) at_212 rfl rfl ?_
      refine A531.ldI (qn := 214) (i := 2) at_213 rfl (by decide) rfl rfl ?_
      have hc214_532 : mm0 = mm0 := by
        clear hw A0 A2 A4 A6 A7 A9 A10 A12 A13 A291 A293 A297 A299 A303 A305 A309 A311 A315 A317 A499 A501 A503 A505 A507 A508 A510 A511 A513 A514 A516 A517 A518 A522 A524 A525 A529 A531
        rfl
      refine A531.icmpNo (q := 217) at_214 (teq hc214_532).2 rfl ?_
      refine A531.iconst (q := 218) (v := 1) at_217 rfl rfl ?_
      refine A531.goto (q := 222) at_218 (by decide) (by decide) ?_
      refine A531.istore (q := 224) (l' := #[.val (.int x0), .val (.int x1), .val (.int x2), .val (.int x3), .val (.int 3), .val (.int mm0), .val (.int ((1 : Int32) + (x2 &&& (1 : Int32)))), .val (.ref b3), .val (.ref b292), .val (.int 2), .val (.int mm2), .val (.ref b504), .val (.int 2), .val (.int 1)]) at_222 rfl rfl ?_
      refine A531.iload (q := 226) at_224 rfl rfl ?_
      refine A531.iconst (q := 227) (v := 1) at_226 rfl rfl ?_
      refine A531.icmpNo (q := 230) at_227 (by decide) rfl ?_
      refine A531.iload (q := 232) at_230 rfl rfl ?_
      refine A531.ifNo (q := 235) at_232 (by decide) rfl ?_
      refine A531.aload (q := 237) at_235 rfl rfl rfl ?_
      refine A531.iconst (q := 238) (v := 1) at_237 rfl rfl ?_
      refine Here.callV (qn := 241) (os1 := [(b3, .inr (.int, [(.int mm0), (.int mm1), (.int mm2)])), (b2_65, .inr (.int, ((((([(.int (-1)), (.int (-1)), (.int (-1))].set mm0.toNatClampNeg (.int 0)).set mm1.toNatClampNeg (.int 1)).set mm2.toNatClampNeg (.int 2)).set mm2.toNatClampNeg (.int 2)).set mm2.toNatClampNeg (.int (-1))))), (b504, .inr (.int, [(.int mm0), (.int mm1), (.int mm2)]))]) (os2 := [(b292, ob0 (.ref b1_65) (.ref b2_65) (.int 2)), (b1_65, .inr (.int, [(.int mm0), (.int mm1), (.int mm2)]))]) (rest := []) (W := 0) (argsL := [(.int 1)]) (a := b292) (i := 3) A531 (m_get1 l Z a0 hw b292 b1_65 b2_65 ((2 : Int32)) mm0 mm1 mm2) (Or.inr ⟨rfl, rfl⟩) rfl (tw hw 45 rfl) (tw hw 46 rfl) (tw hw 48 rfl) (tw hw 47 rfl) (tw hw 4 rfl) (tw hw 49 rfl) (by decide) at_238 rfl (lenOf pd_6 rfl) rfl (Nat.le_of_eq rfl) (by decide) (by decide) (by decide) (by decide) rfl (fun T533 v534 os535 A536 P537 => ?_)
      obtain ⟨rfl, rfl⟩ := P537
      have A538 := A536.cast (k2 := 5) (n2 := 15) (os2 := [(b3, .inr (.int, [(.int mm0), (.int mm1), (.int mm2)])), (b2_65, .inr (.int, ((((([(.int (-1)), (.int (-1)), (.int (-1))].set mm0.toNatClampNeg (.int 0)).set mm1.toNatClampNeg (.int 1)).set mm2.toNatClampNeg (.int 2)).set mm2.toNatClampNeg (.int 2)).set mm2.toNatClampNeg (.int (-1))))), (b504, .inr (.int, [(.int mm0), (.int mm1), (.int mm2)])), (b292, ob0 (.ref b1_65) (.ref b2_65) (.int 2)), (b1_65, .inr (.int, [(.int mm0), (.int mm1), (.int mm2)]))]) rfl rfl rfl
      refine A538.aload (q := 243) at_241 rfl rfl rfl ?_
      refine A538.iconst (q := 244) (v := 1) at_243 rfl rfl ?_
      refine A538.ldI (qn := 245) (i := 2) at_244 rfl (by decide) rfl rfl ?_
      have hc245_539 : mm1 = mm1 := by
        clear hw A0 A2 A4 A6 A7 A9 A10 A12 A13 A291 A293 A297 A299 A303 A305 A309 A311 A315 A317 A499 A501 A503 A505 A507 A508 A510 A511 A513 A514 A516 A517 A518 A522 A524 A525 A529 A531 A536 A538
        rfl
      refine A538.icmpNo (q := 248) at_245 (teq hc245_539).2 rfl ?_
      refine A538.iconst (q := 249) (v := 1) at_248 rfl rfl ?_
      refine A538.goto (q := 253) at_249 (by decide) (by decide) ?_
      refine A538.istore (q := 255) (l' := #[.val (.int x0), .val (.int x1), .val (.int x2), .val (.int x3), .val (.int 3), .val (.int mm0), .val (.int ((1 : Int32) + (x2 &&& (1 : Int32)))), .val (.ref b3), .val (.ref b292), .val (.int 2), .val (.int mm2), .val (.ref b504), .val (.int 2), .val (.int 1)]) at_253 rfl rfl ?_
      refine A538.iload (q := 257) at_255 rfl rfl ?_
      refine A538.ifNo (q := 260) at_257 (by decide) rfl ?_
      refine A538.aload (q := 262) at_260 rfl rfl rfl ?_
      refine A538.iconst (q := 263) (v := 0) at_262 rfl rfl ?_
      have A540 := A538.pick (is := [0, 2, 4, 3, 1]) (os2 := [(b3, .inr (.int, [(.int mm0), (.int mm1), (.int mm2)])), (b504, .inr (.int, [(.int mm0), (.int mm1), (.int mm2)])), (b1_65, .inr (.int, [(.int mm0), (.int mm1), (.int mm2)])), (b292, ob0 (.ref b1_65) (.ref b2_65) (.int 2)), (b2_65, .inr (.int, ((((([(.int (-1)), (.int (-1)), (.int (-1))].set mm0.toNatClampNeg (.int 0)).set mm1.toNatClampNeg (.int 1)).set mm2.toNatClampNeg (.int 2)).set mm2.toNatClampNeg (.int 2)).set mm2.toNatClampNeg (.int (-1)))))]) (by decide) rfl
      refine Here.callV (qn := 266) (os1 := [(b3, .inr (.int, [(.int mm0), (.int mm1), (.int mm2)])), (b504, .inr (.int, [(.int mm0), (.int mm1), (.int mm2)])), (b1_65, .inr (.int, [(.int mm0), (.int mm1), (.int mm2)]))]) (os2 := [(b292, ob0 (.ref b1_65) (.ref b2_65) (.int 2)), (b2_65, .inr (.int, ((((([(.int (-1)), (.int (-1)), (.int (-1))].set mm0.toNatClampNeg (.int 0)).set mm1.toNatClampNeg (.int 1)).set mm2.toNatClampNeg (.int 2)).set mm2.toNatClampNeg (.int 2)).set mm2.toNatClampNeg (.int (-1)))))]) (rest := []) (W := 0) (argsL := [(.int 0)]) (a := b292) (i := 3) A540 (m_place0 l Z a0 hw b292 b1_65 b2_65 ((2 : Int32)) (((((([(.int (-1)), (.int (-1)), (.int (-1))].set mm0.toNatClampNeg (.int 0)).set mm1.toNatClampNeg (.int 1)).set mm2.toNatClampNeg (.int 2)).set mm2.toNatClampNeg (.int 2)).set mm2.toNatClampNeg (.int (-1)))) ((own_val (((((([(.int (-1)), (.int (-1)), (.int (-1))].set mm0.toNatClampNeg (.int 0)).set mm1.toNatClampNeg (.int 1)).set mm2.toNatClampNeg (.int 2)).set mm2.toNatClampNeg (.int 2)).set mm2.toNatClampNeg (.int (-1)))[(0 : Int32).toNatClampNeg]?))) (by rcases hperm with ⟨rfl, rfl, rfl⟩ | ⟨rfl, rfl, rfl⟩ | ⟨rfl, rfl, rfl⟩ | ⟨rfl, rfl, rfl⟩ | ⟨rfl, rfl, rfl⟩ | ⟨rfl, rfl, rfl⟩ <;> decide)) (Or.inr ⟨rfl, rfl⟩) rfl (tw hw 36 rfl) (tw hw 37 rfl) (tw hw 39 rfl) (tw hw 38 rfl) (tw hw 4 rfl) (tw hw 40 rfl) (by decide) at_263 rfl (lenOf pd_6 rfl) rfl (Nat.le_of_eq rfl) (by decide) (by decide) (by decide) (by decide) rfl (fun T541 v542 os543 A544 P545 => ?_)
      obtain ⟨rfl, rfl⟩ := P545
      have A546 := A544.cast (k2 := 5) (n2 := 15) (os2 := [(b3, .inr (.int, [(.int mm0), (.int mm1), (.int mm2)])), (b504, .inr (.int, [(.int mm0), (.int mm1), (.int mm2)])), (b1_65, .inr (.int, [(.int mm0), (.int mm1), (.int mm2)])), (b292, ob0 (.ref b1_65) (.ref b2_65) (.int 2)), (b2_65, .inr (.int, ((((([(.int (-1)), (.int (-1)), (.int (-1))].set mm0.toNatClampNeg (.int 0)).set mm1.toNatClampNeg (.int 1)).set mm2.toNatClampNeg (.int 2)).set mm2.toNatClampNeg (.int 2)).set mm2.toNatClampNeg (.int (-1)))))]) rfl rfl rfl
      refine A546.aload (q := 268) at_266 rfl rfl rfl ?_
      refine A546.iload (q := 270) at_268 rfl rfl ?_
      refine A546.iconst (q := 271) (v := 0) at_270 rfl rfl ?_
      have A547 := A546.pick (is := [0, 2, 3, 4, 1]) (os2 := [(b3, .inr (.int, [(.int mm0), (.int mm1), (.int mm2)])), (b1_65, .inr (.int, [(.int mm0), (.int mm1), (.int mm2)])), (b292, ob0 (.ref b1_65) (.ref b2_65) (.int 2)), (b2_65, .inr (.int, ((((([(.int (-1)), (.int (-1)), (.int (-1))].set mm0.toNatClampNeg (.int 0)).set mm1.toNatClampNeg (.int 1)).set mm2.toNatClampNeg (.int 2)).set mm2.toNatClampNeg (.int 2)).set mm2.toNatClampNeg (.int (-1))))), (b504, .inr (.int, [(.int mm0), (.int mm1), (.int mm2)]))]) (by decide) rfl
      refine Here.callS (qn := 274) (os1 := [(b3, .inr (.int, [(.int mm0), (.int mm1), (.int mm2)])), (b1_65, .inr (.int, [(.int mm0), (.int mm1), (.int mm2)])), (b292, ob0 (.ref b1_65) (.ref b2_65) (.int 2)), (b2_65, .inr (.int, ((((([(.int (-1)), (.int (-1)), (.int (-1))].set mm0.toNatClampNeg (.int 0)).set mm1.toNatClampNeg (.int 1)).set mm2.toNatClampNeg (.int 2)).set mm2.toNatClampNeg (.int 2)).set mm2.toNatClampNeg (.int (-1)))))]) (os2 := [(b504, .inr (.int, [(.int mm0), (.int mm1), (.int mm2)]))]) (rest := [(.int (own_val (((((([(.int (-1)), (.int (-1)), (.int (-1))].set mm0.toNatClampNeg (.int 0)).set mm1.toNatClampNeg (.int 1)).set mm2.toNatClampNeg (.int 2)).set mm2.toNatClampNeg (.int 2)).set mm2.toNatClampNeg (.int (-1)))[(0 : Int32).toNatClampNeg]?)))]) (W := 1) (argsL := [(.ref b504), (.int 2), (.int 0)]) A547 (m_exp2 l Z a0 hw b504 ((0 : Int32)) mm0 mm1 mm2) (Or.inr ⟨rfl, rfl⟩) (tw hw 41 rfl) (tw hw 42 rfl) (tw hw 43 rfl) (tw hw 44 rfl) (by decide) at_271 rfl (lenOf pd_7 rfl) rfl (Nat.le_of_eq rfl) (by decide) (by decide) (by decide) (by decide) rfl (fun T548 v549 os550 A551 P552 => ?_)
      obtain ⟨r_271, rfl, rfl, hq_271⟩ := P552
      have A553 := A551.cast (k2 := 5) (n2 := 15) (os2 := [(b3, .inr (.int, [(.int mm0), (.int mm1), (.int mm2)])), (b1_65, .inr (.int, [(.int mm0), (.int mm1), (.int mm2)])), (b292, ob0 (.ref b1_65) (.ref b2_65) (.int 2)), (b2_65, .inr (.int, ((((([(.int (-1)), (.int (-1)), (.int (-1))].set mm0.toNatClampNeg (.int 0)).set mm1.toNatClampNeg (.int 1)).set mm2.toNatClampNeg (.int 2)).set mm2.toNatClampNeg (.int 2)).set mm2.toNatClampNeg (.int (-1))))), (b504, .inr (.int, [(.int mm0), (.int mm1), (.int mm2)]))]) rfl rfl rfl
      have hc274_554 : (own_val (((((([(.int (-1)), (.int (-1)), (.int (-1))].set mm0.toNatClampNeg (.int 0)).set mm1.toNatClampNeg (.int 1)).set mm2.toNatClampNeg (.int 2)).set mm2.toNatClampNeg (.int 2)).set mm2.toNatClampNeg (.int (-1)))[(0 : Int32).toNatClampNeg]?)) = r_271 := by
        clear hw A0 A2 A4 A6 A7 A9 A10 A12 A13 A291 A293 A297 A299 A303 A305 A309 A311 A315 A317 A499 A501 A503 A505 A507 A508 A510 A511 A513 A514 A516 A517 A518 A522 A524 A525 A529 A531 A536 A538 A540 A544 A546 A547 A551 A553
        rcases hperm with ⟨rfl, rfl, rfl⟩ | ⟨rfl, rfl, rfl⟩ | ⟨rfl, rfl, rfl⟩ | ⟨rfl, rfl, rfl⟩ | ⟨rfl, rfl, rfl⟩ | ⟨rfl, rfl, rfl⟩ <;> rcases hq_271 with ⟨h, rfl⟩ | ⟨h, ⟨h2, rfl⟩ | ⟨h2, rfl⟩⟩ <;> first | decide | (exfalso; revert h; decide) | (exfalso; revert h2; decide)
      refine A553.icmpNo (q := 277) at_274 (teq hc274_554).2 rfl ?_
      refine A553.iconst (q := 278) (v := 1) at_277 rfl rfl ?_
      refine A553.goto (q := 282) at_278 (by decide) (by decide) ?_
      refine A553.istore (q := 284) (l' := #[.val (.int x0), .val (.int x1), .val (.int x2), .val (.int x3), .val (.int 3), .val (.int mm0), .val (.int ((1 : Int32) + (x2 &&& (1 : Int32)))), .val (.ref b3), .val (.ref b292), .val (.int 2), .val (.int mm2), .val (.ref b504), .val (.int 2), .val (.int 1)]) at_282 rfl rfl ?_
      refine A553.iload (q := 286) at_284 rfl rfl ?_
      refine A553.ifNo (q := 289) at_286 (by decide) rfl ?_
      refine A553.aload (q := 291) at_289 rfl rfl rfl ?_
      refine A553.iconst (q := 292) (v := 1) at_291 rfl rfl ?_
      have A555 := A553.pick (is := [0, 1, 4, 2, 3]) (os2 := [(b3, .inr (.int, [(.int mm0), (.int mm1), (.int mm2)])), (b1_65, .inr (.int, [(.int mm0), (.int mm1), (.int mm2)])), (b504, .inr (.int, [(.int mm0), (.int mm1), (.int mm2)])), (b292, ob0 (.ref b1_65) (.ref b2_65) (.int 2)), (b2_65, .inr (.int, ((((([(.int (-1)), (.int (-1)), (.int (-1))].set mm0.toNatClampNeg (.int 0)).set mm1.toNatClampNeg (.int 1)).set mm2.toNatClampNeg (.int 2)).set mm2.toNatClampNeg (.int 2)).set mm2.toNatClampNeg (.int (-1)))))]) (by decide) rfl
      refine Here.callV (qn := 295) (os1 := [(b3, .inr (.int, [(.int mm0), (.int mm1), (.int mm2)])), (b1_65, .inr (.int, [(.int mm0), (.int mm1), (.int mm2)])), (b504, .inr (.int, [(.int mm0), (.int mm1), (.int mm2)]))]) (os2 := [(b292, ob0 (.ref b1_65) (.ref b2_65) (.int 2)), (b2_65, .inr (.int, ((((([(.int (-1)), (.int (-1)), (.int (-1))].set mm0.toNatClampNeg (.int 0)).set mm1.toNatClampNeg (.int 1)).set mm2.toNatClampNeg (.int 2)).set mm2.toNatClampNeg (.int 2)).set mm2.toNatClampNeg (.int (-1)))))]) (rest := []) (W := 0) (argsL := [(.int 1)]) (a := b292) (i := 3) A555 (m_place1 l Z a0 hw b292 b1_65 b2_65 ((2 : Int32)) (((((([(.int (-1)), (.int (-1)), (.int (-1))].set mm0.toNatClampNeg (.int 0)).set mm1.toNatClampNeg (.int 1)).set mm2.toNatClampNeg (.int 2)).set mm2.toNatClampNeg (.int 2)).set mm2.toNatClampNeg (.int (-1)))) ((own_val (((((([(.int (-1)), (.int (-1)), (.int (-1))].set mm0.toNatClampNeg (.int 0)).set mm1.toNatClampNeg (.int 1)).set mm2.toNatClampNeg (.int 2)).set mm2.toNatClampNeg (.int 2)).set mm2.toNatClampNeg (.int (-1)))[(1 : Int32).toNatClampNeg]?))) (by rcases hperm with ⟨rfl, rfl, rfl⟩ | ⟨rfl, rfl, rfl⟩ | ⟨rfl, rfl, rfl⟩ | ⟨rfl, rfl, rfl⟩ | ⟨rfl, rfl, rfl⟩ | ⟨rfl, rfl, rfl⟩ <;> decide)) (Or.inr ⟨rfl, rfl⟩) rfl (tw hw 36 rfl) (tw hw 37 rfl) (tw hw 39 rfl) (tw hw 38 rfl) (tw hw 4 rfl) (tw hw 40 rfl) (by decide) at_292 rfl (lenOf pd_6 rfl) rfl (Nat.le_of_eq rfl) (by decide) (by decide) (by decide) (by decide) rfl (fun T556 v557 os558 A559 P560 => ?_)
      obtain ⟨rfl, rfl⟩ := P560
      have A561 := A559.cast (k2 := 5) (n2 := 15) (os2 := [(b3, .inr (.int, [(.int mm0), (.int mm1), (.int mm2)])), (b1_65, .inr (.int, [(.int mm0), (.int mm1), (.int mm2)])), (b504, .inr (.int, [(.int mm0), (.int mm1), (.int mm2)])), (b292, ob0 (.ref b1_65) (.ref b2_65) (.int 2)), (b2_65, .inr (.int, ((((([(.int (-1)), (.int (-1)), (.int (-1))].set mm0.toNatClampNeg (.int 0)).set mm1.toNatClampNeg (.int 1)).set mm2.toNatClampNeg (.int 2)).set mm2.toNatClampNeg (.int 2)).set mm2.toNatClampNeg (.int (-1)))))]) rfl rfl rfl
      refine A561.aload (q := 297) at_295 rfl rfl rfl ?_
      refine A561.iload (q := 299) at_297 rfl rfl ?_
      refine A561.iconst (q := 300) (v := 1) at_299 rfl rfl ?_
      have A562 := A561.pick (is := [0, 1, 3, 4, 2]) (os2 := [(b3, .inr (.int, [(.int mm0), (.int mm1), (.int mm2)])), (b1_65, .inr (.int, [(.int mm0), (.int mm1), (.int mm2)])), (b292, ob0 (.ref b1_65) (.ref b2_65) (.int 2)), (b2_65, .inr (.int, ((((([(.int (-1)), (.int (-1)), (.int (-1))].set mm0.toNatClampNeg (.int 0)).set mm1.toNatClampNeg (.int 1)).set mm2.toNatClampNeg (.int 2)).set mm2.toNatClampNeg (.int 2)).set mm2.toNatClampNeg (.int (-1))))), (b504, .inr (.int, [(.int mm0), (.int mm1), (.int mm2)]))]) (by decide) rfl
      refine Here.callS (qn := 303) (os1 := [(b3, .inr (.int, [(.int mm0), (.int mm1), (.int mm2)])), (b1_65, .inr (.int, [(.int mm0), (.int mm1), (.int mm2)])), (b292, ob0 (.ref b1_65) (.ref b2_65) (.int 2)), (b2_65, .inr (.int, ((((([(.int (-1)), (.int (-1)), (.int (-1))].set mm0.toNatClampNeg (.int 0)).set mm1.toNatClampNeg (.int 1)).set mm2.toNatClampNeg (.int 2)).set mm2.toNatClampNeg (.int 2)).set mm2.toNatClampNeg (.int (-1)))))]) (os2 := [(b504, .inr (.int, [(.int mm0), (.int mm1), (.int mm2)]))]) (rest := [(.int (own_val (((((([(.int (-1)), (.int (-1)), (.int (-1))].set mm0.toNatClampNeg (.int 0)).set mm1.toNatClampNeg (.int 1)).set mm2.toNatClampNeg (.int 2)).set mm2.toNatClampNeg (.int 2)).set mm2.toNatClampNeg (.int (-1)))[(1 : Int32).toNatClampNeg]?)))]) (W := 1) (argsL := [(.ref b504), (.int 2), (.int 1)]) A562 (m_exp2 l Z a0 hw b504 ((1 : Int32)) mm0 mm1 mm2) (Or.inr ⟨rfl, rfl⟩) (tw hw 41 rfl) (tw hw 42 rfl) (tw hw 43 rfl) (tw hw 44 rfl) (by decide) at_300 rfl (lenOf pd_7 rfl) rfl (Nat.le_of_eq rfl) (by decide) (by decide) (by decide) (by decide) rfl (fun T563 v564 os565 A566 P567 => ?_)
      obtain ⟨r_300, rfl, rfl, hq_300⟩ := P567
      have A568 := A566.cast (k2 := 5) (n2 := 15) (os2 := [(b3, .inr (.int, [(.int mm0), (.int mm1), (.int mm2)])), (b1_65, .inr (.int, [(.int mm0), (.int mm1), (.int mm2)])), (b292, ob0 (.ref b1_65) (.ref b2_65) (.int 2)), (b2_65, .inr (.int, ((((([(.int (-1)), (.int (-1)), (.int (-1))].set mm0.toNatClampNeg (.int 0)).set mm1.toNatClampNeg (.int 1)).set mm2.toNatClampNeg (.int 2)).set mm2.toNatClampNeg (.int 2)).set mm2.toNatClampNeg (.int (-1))))), (b504, .inr (.int, [(.int mm0), (.int mm1), (.int mm2)]))]) rfl rfl rfl
      have hc303_569 : (own_val (((((([(.int (-1)), (.int (-1)), (.int (-1))].set mm0.toNatClampNeg (.int 0)).set mm1.toNatClampNeg (.int 1)).set mm2.toNatClampNeg (.int 2)).set mm2.toNatClampNeg (.int 2)).set mm2.toNatClampNeg (.int (-1)))[(1 : Int32).toNatClampNeg]?)) = r_300 := by
        clear hw A0 A2 A4 A6 A7 A9 A10 A12 A13 A291 A293 A297 A299 A303 A305 A309 A311 A315 A317 A499 A501 A503 A505 A507 A508 A510 A511 A513 A514 A516 A517 A518 A522 A524 A525 A529 A531 A536 A538 A540 A544 A546 A547 A551 A553 A555 A559 A561 A562 A566 A568
        rcases hperm with ⟨rfl, rfl, rfl⟩ | ⟨rfl, rfl, rfl⟩ | ⟨rfl, rfl, rfl⟩ | ⟨rfl, rfl, rfl⟩ | ⟨rfl, rfl, rfl⟩ | ⟨rfl, rfl, rfl⟩ <;> rcases hq_300 with ⟨h, rfl⟩ | ⟨h, ⟨h2, rfl⟩ | ⟨h2, rfl⟩⟩ <;> first | decide | (exfalso; revert h; decide) | (exfalso; revert h2; decide)
      refine A568.icmpNo (q := 306) at_303 (teq hc303_569).2 rfl ?_
      refine A568.iconst (q := 307) (v := 1) at_306 rfl rfl ?_
      refine A568.goto (q := 311) at_307 (by decide) (by decide) ?_
      refine A568.istore (q := 313) (l' := #[.val (.int x0), .val (.int x1), .val (.int x2), .val (.int x3), .val (.int 3), .val (.int mm0), .val (.int ((1 : Int32) + (x2 &&& (1 : Int32)))), .val (.ref b3), .val (.ref b292), .val (.int 2), .val (.int mm2), .val (.ref b504), .val (.int 2), .val (.int 1)]) at_311 rfl rfl ?_
      refine A568.iload (q := 315) at_313 rfl rfl ?_
      refine A568.ifNo (q := 318) at_315 (by decide) rfl ?_
      refine A568.aload (q := 320) at_318 rfl rfl rfl ?_
      refine A568.iconst (q := 321) (v := 2) at_320 rfl rfl ?_
      have A570 := A568.pick (is := [0, 1, 4, 2, 3]) (os2 := [(b3, .inr (.int, [(.int mm0), (.int mm1), (.int mm2)])), (b1_65, .inr (.int, [(.int mm0), (.int mm1), (.int mm2)])), (b504, .inr (.int, [(.int mm0), (.int mm1), (.int mm2)])), (b292, ob0 (.ref b1_65) (.ref b2_65) (.int 2)), (b2_65, .inr (.int, ((((([(.int (-1)), (.int (-1)), (.int (-1))].set mm0.toNatClampNeg (.int 0)).set mm1.toNatClampNeg (.int 1)).set mm2.toNatClampNeg (.int 2)).set mm2.toNatClampNeg (.int 2)).set mm2.toNatClampNeg (.int (-1)))))]) (by decide) rfl
      refine Here.callV (qn := 324) (os1 := [(b3, .inr (.int, [(.int mm0), (.int mm1), (.int mm2)])), (b1_65, .inr (.int, [(.int mm0), (.int mm1), (.int mm2)])), (b504, .inr (.int, [(.int mm0), (.int mm1), (.int mm2)]))]) (os2 := [(b292, ob0 (.ref b1_65) (.ref b2_65) (.int 2)), (b2_65, .inr (.int, ((((([(.int (-1)), (.int (-1)), (.int (-1))].set mm0.toNatClampNeg (.int 0)).set mm1.toNatClampNeg (.int 1)).set mm2.toNatClampNeg (.int 2)).set mm2.toNatClampNeg (.int 2)).set mm2.toNatClampNeg (.int (-1)))))]) (rest := []) (W := 0) (argsL := [(.int 2)]) (a := b292) (i := 3) A570 (m_place2 l Z a0 hw b292 b1_65 b2_65 ((2 : Int32)) (((((([(.int (-1)), (.int (-1)), (.int (-1))].set mm0.toNatClampNeg (.int 0)).set mm1.toNatClampNeg (.int 1)).set mm2.toNatClampNeg (.int 2)).set mm2.toNatClampNeg (.int 2)).set mm2.toNatClampNeg (.int (-1)))) ((own_val (((((([(.int (-1)), (.int (-1)), (.int (-1))].set mm0.toNatClampNeg (.int 0)).set mm1.toNatClampNeg (.int 1)).set mm2.toNatClampNeg (.int 2)).set mm2.toNatClampNeg (.int 2)).set mm2.toNatClampNeg (.int (-1)))[(2 : Int32).toNatClampNeg]?))) (by rcases hperm with ⟨rfl, rfl, rfl⟩ | ⟨rfl, rfl, rfl⟩ | ⟨rfl, rfl, rfl⟩ | ⟨rfl, rfl, rfl⟩ | ⟨rfl, rfl, rfl⟩ | ⟨rfl, rfl, rfl⟩ <;> decide)) (Or.inr ⟨rfl, rfl⟩) rfl (tw hw 36 rfl) (tw hw 37 rfl) (tw hw 39 rfl) (tw hw 38 rfl) (tw hw 4 rfl) (tw hw 40 rfl) (by decide) at_321 rfl (lenOf pd_6 rfl) rfl (Nat.le_of_eq rfl) (by decide) (by decide) (by decide) (by decide) rfl (fun T571 v572 os573 A574 P575 => ?_)
      obtain ⟨rfl, rfl⟩ := P575
      have A576 := A574.cast (k2 := 5) (n2 := 15) (os2 := [(b3, .inr (.int, [(.int mm0), (.int mm1), (.int mm2)])), (b1_65, .inr (.int, [(.int mm0), (.int mm1), (.int mm2)])), (b504, .inr (.int, [(.int mm0), (.int mm1), (.int mm2)])), (b292, ob0 (.ref b1_65) (.ref b2_65) (.int 2)), (b2_65, .inr (.int, ((((([(.int (-1)), (.int (-1)), (.int (-1))].set mm0.toNatClampNeg (.int 0)).set mm1.toNatClampNeg (.int 1)).set mm2.toNatClampNeg (.int 2)).set mm2.toNatClampNeg (.int 2)).set mm2.toNatClampNeg (.int (-1)))))]) rfl rfl rfl
      refine A576.aload (q := 326) at_324 rfl rfl rfl ?_
      refine A576.iload (q := 328) at_326 rfl rfl ?_
      refine A576.iconst (q := 329) (v := 2) at_328 rfl rfl ?_
      have A577 := A576.pick (is := [0, 1, 3, 4, 2]) (os2 := [(b3, .inr (.int, [(.int mm0), (.int mm1), (.int mm2)])), (b1_65, .inr (.int, [(.int mm0), (.int mm1), (.int mm2)])), (b292, ob0 (.ref b1_65) (.ref b2_65) (.int 2)), (b2_65, .inr (.int, ((((([(.int (-1)), (.int (-1)), (.int (-1))].set mm0.toNatClampNeg (.int 0)).set mm1.toNatClampNeg (.int 1)).set mm2.toNatClampNeg (.int 2)).set mm2.toNatClampNeg (.int 2)).set mm2.toNatClampNeg (.int (-1))))), (b504, .inr (.int, [(.int mm0), (.int mm1), (.int mm2)]))]) (by decide) rfl
      refine Here.callS (qn := 332) (os1 := [(b3, .inr (.int, [(.int mm0), (.int mm1), (.int mm2)])), (b1_65, .inr (.int, [(.int mm0), (.int mm1), (.int mm2)])), (b292, ob0 (.ref b1_65) (.ref b2_65) (.int 2)), (b2_65, .inr (.int, ((((([(.int (-1)), (.int (-1)), (.int (-1))].set mm0.toNatClampNeg (.int 0)).set mm1.toNatClampNeg (.int 1)).set mm2.toNatClampNeg (.int 2)).set mm2.toNatClampNeg (.int 2)).set mm2.toNatClampNeg (.int (-1)))))]) (os2 := [(b504, .inr (.int, [(.int mm0), (.int mm1), (.int mm2)]))]) (rest := [(.int (own_val (((((([(.int (-1)), (.int (-1)), (.int (-1))].set mm0.toNatClampNeg (.int 0)).set mm1.toNatClampNeg (.int 1)).set mm2.toNatClampNeg (.int 2)).set mm2.toNatClampNeg (.int 2)).set mm2.toNatClampNeg (.int (-1)))[(2 : Int32).toNatClampNeg]?)))]) (W := 1) (argsL := [(.ref b504), (.int 2), (.int 2)]) A577 (m_exp2 l Z a0 hw b504 ((2 : Int32)) mm0 mm1 mm2) (Or.inr ⟨rfl, rfl⟩) (tw hw 41 rfl) (tw hw 42 rfl) (tw hw 43 rfl) (tw hw 44 rfl) (by decide) at_329 rfl (lenOf pd_7 rfl) rfl (Nat.le_of_eq rfl) (by decide) (by decide) (by decide) (by decide) rfl (fun T578 v579 os580 A581 P582 => ?_)
      obtain ⟨r_329, rfl, rfl, hq_329⟩ := P582
      have A583 := A581.cast (k2 := 5) (n2 := 15) (os2 := [(b3, .inr (.int, [(.int mm0), (.int mm1), (.int mm2)])), (b1_65, .inr (.int, [(.int mm0), (.int mm1), (.int mm2)])), (b292, ob0 (.ref b1_65) (.ref b2_65) (.int 2)), (b2_65, .inr (.int, ((((([(.int (-1)), (.int (-1)), (.int (-1))].set mm0.toNatClampNeg (.int 0)).set mm1.toNatClampNeg (.int 1)).set mm2.toNatClampNeg (.int 2)).set mm2.toNatClampNeg (.int 2)).set mm2.toNatClampNeg (.int (-1))))), (b504, .inr (.int, [(.int mm0), (.int mm1), (.int mm2)]))]) rfl rfl rfl
      have hc332_584 : (own_val (((((([(.int (-1)), (.int (-1)), (.int (-1))].set mm0.toNatClampNeg (.int 0)).set mm1.toNatClampNeg (.int 1)).set mm2.toNatClampNeg (.int 2)).set mm2.toNatClampNeg (.int 2)).set mm2.toNatClampNeg (.int (-1)))[(2 : Int32).toNatClampNeg]?)) = r_329 := by
        clear hw A0 A2 A4 A6 A7 A9 A10 A12 A13 A291 A293 A297 A299 A303 A305 A309 A311 A315 A317 A499 A501 A503 A505 A507 A508 A510 A511 A513 A514 A516 A517 A518 A522 A524 A525 A529 A531 A536 A538 A540 A544 A546 A547 A551 A553 A555 A559 A561 A562 A566 A568 A570 A574 A576 A577 A581 A583
        rcases hperm with ⟨rfl, rfl, rfl⟩ | ⟨rfl, rfl, rfl⟩ | ⟨rfl, rfl, rfl⟩ | ⟨rfl, rfl, rfl⟩ | ⟨rfl, rfl, rfl⟩ | ⟨rfl, rfl, rfl⟩ <;> rcases hq_329 with ⟨h, rfl⟩ | ⟨h, ⟨h2, rfl⟩ | ⟨h2, rfl⟩⟩ <;> first | decide | (exfalso; revert h; decide) | (exfalso; revert h2; decide)
      refine A583.icmpNo (q := 335) at_332 (teq hc332_584).2 rfl ?_
      refine A583.iconst (q := 336) (v := 1) at_335 rfl rfl ?_
      refine A583.goto (q := 340) at_336 (by decide) (by decide) ?_
      refine A583.istore (q := 342) (l' := #[.val (.int x0), .val (.int x1), .val (.int x2), .val (.int x3), .val (.int 3), .val (.int mm0), .val (.int ((1 : Int32) + (x2 &&& (1 : Int32)))), .val (.ref b3), .val (.ref b292), .val (.int 2), .val (.int mm2), .val (.ref b504), .val (.int 2), .val (.int 1)]) at_340 rfl rfl ?_
      refine A583.iload (q := 344) at_342 rfl rfl ?_
      exact A583.retN (by simp) at_344 (by decide) (by decide) ⟨rfl, trivial⟩
set_option maxRecDepth 65536 in
set_option maxHeartbeats 40000000 in
theorem comes_1 {Post : Tables → Env → Array Value → State → Outcome → State → Prop} (hpost : ∀ tb e args s v u, (limb_1_1.after args s (.returned v) u = true ∧ limb_1_2.after args s (.returned v) u = true ∧ True) → FrameEnd s (.returned v) u (Jvm.fieldLocs frame_1_writes args s ++ Jvm.arrayLocs frame_1_arrays args s ++ Jvm.staticLocs frame_1_statics s) 24 128 → Post tb e args s (.returned v) u) :
    ArmFor flags0 classFile x code maxLocals ret World_1 tables_1 room_1 Calls_1 rest_1 Pre_1 Post := by
  intro l hfl _ _ p e ha hc hk s m args below hf hA hF happ hP
  obtain ⟨hcalls, hrest, hpre⟩ := hP
  obtain ⟨-, -, -, hnamed, -, -, -, hat⟩ := (Spec.applies_iff hf).mp happ
  obtain ⟨hg, hn⟩ := and_e (Cond.before_iff.mp (show (Jvm.Cond.and given_1 narrow_1).before args s = true from hpre))
  obtain ⟨g11, g12⟩ := and_e hg
  obtain ⟨g13, g14⟩ := and_e g12
  obtain ⟨g15, g16⟩ := and_e g14
  obtain ⟨g17, g18⟩ := and_e g16
  obtain ⟨w0, w1, w2, w3, rfl⟩ : ∃ w0 w1 w2 w3 : Value, args = #[w0, w1, w2, w3] := by
    have hs : args.size = 4 := by simpa [Cond.value, given_1] using g11
    obtain ⟨L⟩ := args
    match L, hs with
    | [w0, w1, w2, w3], _ => exact ⟨w0, w1, w2, w3, rfl⟩
  have hw := fun d (hd : d ∈ tables_1) => atoms_spec (ws := Jvm.Cond.code x code maxLocals ret :: tables_1) hat d (List.mem_cons_of_mem _ hd)
  obtain ⟨i0, ei0⟩ := is_v g13
  obtain rfl : w0 = (.int i0) := Option.some.inj ei0
  obtain ⟨i1, ei1⟩ := is_v g15
  obtain rfl : w1 = (.int i1) := Option.some.inj ei1
  obtain ⟨i2, ei2⟩ := is_v g17
  obtain rfl : w2 = (.int i2) := Option.some.inj ei2
  obtain ⟨i3, ei3⟩ := is_v g18
  obtain rfl : w3 = (.int i3) := Option.some.inj ei3
  obtain ⟨n, o, h1, h2, h3, _, L, rfl, ⟨N, _, _, rfl, _⟩, hq⟩ := m_law l s _ hw i0 i1 i2 i3 tables_1 s.heap ⟨List.nodup_nil, fun _ q => (nomatch q)⟩ p e ha hc hk s m _ below hf ((Spec.applies_iff_loose hf).mp happ).1 ⟨rfl, State.Warmed39.refl s, rfl⟩ trivial
  refine ⟨n, _, h1, h2, h3, hpost _ _ _ _ _ _ ⟨Cond.after_iff.mpr rfl, Cond.after_iff.mpr (eq_i res_at (Term.int_eval (1)) rfl), trivial⟩ ⟨hq.1, hq.2.1, (hq.2.2.sift fun y hy => Or.inr ((N y hy).elim (fun q => absurd q List.not_mem_nil) id)).mono (by decide) (by decide)⟩⟩
theorem main_1_1 : Claimed_1_1 := comes_1 fun _ _ _ _ _ _ h hF => ⟨h.1, hF⟩
theorem main_1_2 : Claimed_1_2 := comes_1 fun _ _ _ _ _ _ h hF => ⟨h.2.1, hF⟩
end Jvm.Pilot.@@N@@
namespace Jvm.Pilot.@@N@@
open Jvm Jvm.ClassFile Sem Op Lib Jvm.Free Jvm.Stand Jvm.Pilot.@@N@@.Jvm.D
/-! MADE BY PROGRAM (witnessworld.py) out of the Statement's table words and the real class files: 10 classes; the members and pool entries that the words name. The judged class is class 1, her method 2. -/
namespace start1
open Jvm.ClassFile
def u (s : String) : CpInfo := .utf8 (stringToUtf16 s)
/-- a pool by its gaps: so many unusable entries, then the entry; so many at the end -/
def gap : Nat → List CpInfo → List CpInfo
  | 0, r => r
  | n + 1, r => .unusable :: gap n r
def poolList (es : List (Nat × CpInfo)) (last : Nat) : List CpInfo := es.foldr (fun e r => gap e.1 (e.2 :: r)) (gap last [])
def pool (es : List (Nat × CpInfo)) (last : Nat) : Array CpInfo := ⟨poolList es last⟩
def fileOf (pool : Array CpInfo) (this : Nat) (attrs : Array Attribute := #[]) (ms : Array MethodInfo := #[]) (fl : Nat := 33) (sup : Nat := 0) (ifs : Array Nat := #[]) (fds : Array FieldInfo := #[]) : ClassFile where
  minorVersion := 0
  majorVersion := 65
  constantPool := pool
  accessFlags := fl
  thisClass := this
  superClass := sup
  interfaces := ifs
  fields := fds
  methods := ms
  attributes := attrs
def plain (name : String) (sup : Option ClassId) : Class where
  name := name
  kind := .ordinary
  loader := none
  accessFlags := 33
  super := sup
  interfaces := #[]
  cf := none
  fields := #[]
  methods := #[]
  instanceTypes := #[]
  staticTypes := #[]
  resolved := #[]
  callSites := []
  init := .initialized
  statics := none
  mirror := none

def pool0 : Array CpInfo := pool [(5, u "<init>"), (0, u "()V"), (1, .class_ 10), (1, u "java/lang/Object")] 113

def k0c0 : Code := { maxStack := 0, maxLocals := 1, code := object_method_1_code, exceptionTable := #[], attributes := #[] }
def k0m0 : Method := { name := "<init>", desc := "()V", sig := { parameters := [], returnType := none }, accessFlags := 1, code := some k0c0 }
/-- java/lang/Object -/
def k0 : Class := { plain "java/lang/Object" none with
  accessFlags := 33
  interfaces := #[]
  cf := some (fileOf pool0 8 #[] #[{ accessFlags := 1, nameIndex := 5, descriptorIndex := 6, attributes := #[] }] 33 0 #[] #[])
  fields := #[]
  methods := #[k0m0]
  instanceTypes := #[]
  staticTypes := #[]
  resolved := Array.replicate 124 none
  statics := none }

def pool1 : Array CpInfo := pool [(2, .class_ 4), (1, u "java/lang/Object"), (0, u "<init>"), (0, u "()V"), (0, .integer 2147483647), (0, .class_ 9), (0, u "com/example/heirring/heirring/IndexedIntSet"), (0, .methodref 8 11), (0, .nameAndType 5 12), (0, u "(I)V"), (0, .methodref 8 14), (0, .nameAndType 15 12), (0, u "add"), (0, .methodref 8 17), (0, .nameAndType 18 12), (0, u "remove"), (0, .methodref 8 20), (0, .nameAndType 21 22), (0, u "size"), (0, u "()I"), (0, .methodref 8 24), (0, .nameAndType 25 26), (0, u "get"), (0, u "(I)I"), (0, .methodref 8 28), (0, .nameAndType 29 26), (0, u "place"), (0, .methodref 31 32), (0, .class_ 33), (0, .nameAndType 34 35), (0, u "com/example/heirring/heirring/IndexedIntSetRemovePinLaw"), (0, u "expPlace"), (0, u "([III)I"), (3, u "law"), (0, u "(IIII)Z")] 4

def k1m0 : Method := { name := "<init>", desc := "()V", sig := { parameters := [], returnType := none }, accessFlags := 2, code := none }
def k1c1 : Code := { maxStack := 2, maxLocals := 3, code := method_2_code, exceptionTable := #[], attributes := #[] }
def k1m1 : Method := { name := "expPlace", desc := "([III)I", sig := { parameters := [(.array .int), .int, .int], returnType := some .int }, accessFlags := 10, code := some k1c1 }
def k1c2 : Code := { maxStack := 5, maxLocals := 14, code := code, exceptionTable := #[], attributes := #[] }
def k1m2 : Method := { name := "law", desc := "(IIII)Z", sig := { parameters := [.int, .int, .int, .int], returnType := some .boolean }, accessFlags := 9, code := some k1c2 }
/-- com/example/heirring/heirring/IndexedIntSetRemovePinLaw -/
def k1 : Class := { plain "com/example/heirring/heirring/IndexedIntSetRemovePinLaw" (some 0) with
  accessFlags := 49
  interfaces := #[]
  cf := some (fileOf pool1 31 #[] #[{ accessFlags := 2, nameIndex := 5, descriptorIndex := 6, attributes := #[] }, { accessFlags := 10, nameIndex := 34, descriptorIndex := 35, attributes := #[] }, { accessFlags := 9, nameIndex := 39, descriptorIndex := 40, attributes := #[] }] 49 2 #[] #[])
  fields := #[]
  methods := #[k1m0, k1m1, k1m2]
  instanceTypes := #[]
  staticTypes := #[]
  resolved := Array.replicate 45 none
  statics := none }

def pool2 : Array CpInfo := pool [(1, .methodref 2 3), (0, .class_ 4), (0, .nameAndType 5 6), (0, u "java/lang/Object"), (0, u "<init>"), (0, u "()V"), (0, .fieldref 8 9), (0, .class_ 10), (0, .nameAndType 11 12), (0, u "com/example/heirring/heirring/IndexedIntSet"), (0, u "members"), (0, u "[I"), (0, .fieldref 8 14), (0, .nameAndType 15 12), (0, u "places"), (0, .methodref 17 18), (0, .class_ 19), (0, .nameAndType 20 21), (0, u "java/util/Arrays"), (0, u "fill"), (0, u "([II)V"), (2, u "(I)V"), (2, u "add"), (0, .fieldref 8 29), (0, .nameAndType 30 31), (0, u "size"), (0, u "I"), (26, u "()I"), (2, u "get"), (0, u "(I)I"), (0, u "place"), (0, u "remove")] 2

def k2c0 : Code := { maxStack := 2, maxLocals := 2, code := prog_33_method_1_code, exceptionTable := #[], attributes := #[] }
def k2m0 : Method := { name := "<init>", desc := "(I)V", sig := { parameters := [.int], returnType := none }, accessFlags := 0, code := some k2c0 }
def k2c1 : Code := { maxStack := 1, maxLocals := 1, code := prog_33_method_5_code, exceptionTable := #[], attributes := #[] }
def k2m1 : Method := { name := "size", desc := "()I", sig := { parameters := [], returnType := some .int }, accessFlags := 0, code := some k2c1 }
def k2c2 : Code := { maxStack := 2, maxLocals := 2, code := prog_33_method_7_code, exceptionTable := #[], attributes := #[] }
def k2m2 : Method := { name := "get", desc := "(I)I", sig := { parameters := [.int], returnType := some .int }, accessFlags := 0, code := some k2c2 }
def k2c3 : Code := { maxStack := 2, maxLocals := 2, code := prog_33_method_8_code, exceptionTable := #[], attributes := #[] }
def k2m3 : Method := { name := "place", desc := "(I)I", sig := { parameters := [.int], returnType := some .int }, accessFlags := 0, code := some k2c3 }
def k2c4 : Code := { maxStack := 3, maxLocals := 2, code := prog_33_method_9_code, exceptionTable := #[], attributes := #[] }
def k2m4 : Method := { name := "add", desc := "(I)V", sig := { parameters := [.int], returnType := none }, accessFlags := 0, code := some k2c4 }
def k2c5 : Code := { maxStack := 3, maxLocals := 4, code := prog_33_method_10_code, exceptionTable := #[], attributes := #[] }
def k2m5 : Method := { name := "remove", desc := "(I)V", sig := { parameters := [.int], returnType := none }, accessFlags := 0, code := some k2c5 }
/-- com/example/heirring/heirring/IndexedIntSet -/
def k2 : Class := { plain "com/example/heirring/heirring/IndexedIntSet" (some 0) with
  accessFlags := 48
  interfaces := #[]
  cf := some (fileOf pool2 8 #[] #[{ accessFlags := 0, nameIndex := 5, descriptorIndex := 24, attributes := #[] }, { accessFlags := 0, nameIndex := 30, descriptorIndex := 58, attributes := #[] }, { accessFlags := 0, nameIndex := 61, descriptorIndex := 62, attributes := #[] }, { accessFlags := 0, nameIndex := 63, descriptorIndex := 62, attributes := #[] }, { accessFlags := 0, nameIndex := 27, descriptorIndex := 24, attributes := #[] }, { accessFlags := 0, nameIndex := 64, descriptorIndex := 24, attributes := #[] }] 48 2 #[] #[{ accessFlags := 18, nameIndex := 11, descriptorIndex := 12, attributes := #[] }, { accessFlags := 18, nameIndex := 15, descriptorIndex := 12, attributes := #[] }, { accessFlags := 2, nameIndex := 30, descriptorIndex := 31, attributes := #[] }])
  fields := #[{ name := "members", type := (.array .int), accessFlags := 18, slot := 0, constantValue := 0 }, { name := "places", type := (.array .int), accessFlags := 18, slot := 1, constantValue := 0 }, { name := "size", type := .int, accessFlags := 2, slot := 2, constantValue := 0 }]
  methods := #[k2m0, k2m1, k2m2, k2m3, k2m4, k2m5]
  instanceTypes := #[(.array .int), (.array .int), .int]
  staticTypes := #[]
  resolved := Array.replicate 67 none
  statics := none }

def pool3 : Array CpInfo := pool [(2, .class_ 4), (1, u "java/lang/Object"), (0, u "<init>"), (0, u "()V"), (7, .class_ 16), (1, u "java/util/Arrays"), (57, .class_ 76), (1, u "java/util/Arrays$NaturalOrder"), (36, .class_ 115), (1, u "java/util/Arrays$LegacyMergeSort"), (1, u "Z"), (257, .class_ 376), (0, u "java/util/Arrays$ArrayList"), (68, u "$assertionsDisabled"), (269, u "MIN_ARRAY_SORT_GRAN"), (0, u "I"), (2, u "INSERTIONSORT_THRESHOLD"), (120, u "fill"), (4, u "([II)V"), (129, .class_ 976), (0, u "java/util/Arrays$ArrayItr")] 52

def k3m0 : Method := { name := "<init>", desc := "()V", sig := { parameters := [], returnType := none }, accessFlags := 2, code := none }
def k3c1 : Code := { maxStack := 3, maxLocals := 4, code := jdk_65_method_103_code, exceptionTable := #[], attributes := #[] }
def k3m1 : Method := { name := "fill", desc := "([II)V", sig := { parameters := [(.array .int), .int], returnType := none }, accessFlags := 9, code := some k3c1 }
/-- java/util/Arrays -/
def k3 : Class := { plain "java/util/Arrays" (some 0) with
  accessFlags := 49
  interfaces := #[]
  cf := some (fileOf pool3 14 #[.nestMembers #[975, 375, 113, 74]] #[{ accessFlags := 2, nameIndex := 5, descriptorIndex := 6, attributes := #[] }, { accessFlags := 9, nameIndex := 840, descriptorIndex := 845, attributes := #[] }] 49 2 #[] #[{ accessFlags := 26, nameIndex := 715, descriptorIndex := 716, attributes := #[] }, { accessFlags := 26, nameIndex := 719, descriptorIndex := 716, attributes := #[] }, { accessFlags := 4120, nameIndex := 445, descriptorIndex := 117, attributes := #[] }])
  fields := #[{ name := "MIN_ARRAY_SORT_GRAN", type := .int, accessFlags := 26, slot := 0, constantValue := 0 }, { name := "INSERTIONSORT_THRESHOLD", type := .int, accessFlags := 26, slot := 1, constantValue := 0 }, { name := "$assertionsDisabled", type := .boolean, accessFlags := 4120, slot := 2, constantValue := 0 }]
  methods := #[k3m0, k3m1]
  instanceTypes := #[]
  staticTypes := #[.int, .int, .boolean]
  resolved := Array.replicate 1029 none
  statics := none }

def pool4 : Array CpInfo := pool [(1, u "java/lang/Cloneable"), (0, .class_ 1), (0, u "java/lang/Object"), (0, .class_ 3)] 3

/-- java/lang/Cloneable -/
def k4 : Class := { plain "java/lang/Cloneable" (some 0) with
  accessFlags := 1537
  interfaces := #[]
  cf := some (fileOf pool4 2 #[] #[] 1537 4 #[] #[])
  fields := #[]
  methods := #[]
  instanceTypes := #[]
  staticTypes := #[]
  resolved := Array.replicate 8 none
  statics := none }

def pool5 : Array CpInfo := pool [(1, u "java/io/Serializable"), (0, .class_ 1), (0, u "java/lang/Object"), (0, .class_ 3)] 3

/-- java/io/Serializable -/
def k5 : Class := { plain "java/io/Serializable" (some 0) with
  accessFlags := 1537
  interfaces := #[]
  cf := some (fileOf pool5 2 #[] #[] 1537 4 #[] #[])
  fields := #[]
  methods := #[]
  instanceTypes := #[]
  staticTypes := #[]
  resolved := Array.replicate 8 none
  statics := none }

/-- the primitive byte -/
def k6 : Class := { plain "byte" none with kind := .primitive 'B', accessFlags := 0x411 }
/-- [B -/
def k7 : Class := { plain "[B" (some 0) with kind := .array 6 .byte, interfaces := #[4, 5], accessFlags := 1041 }

/-- the primitive int -/
def k8 : Class := { plain "int" none with kind := .primitive 'I', accessFlags := 0x411 }
/-- [I -/
def k9 : Class := { plain "[I" (some 0) with kind := .array 8 .int, interfaces := #[4, 5], accessFlags := 1041 }

def heap : Heap := #[]
def classes : Array Class := #[k0, k1, k2, k3, k4, k5, k6, k7, k8, k9]
def interned : List (Array UInt16 × Addr) := []
def slotsUsed : Nat := 0
def theMethod : MethodId := ⟨1, 2⟩
def args0 : Array Value := #[.int 3, .int 9, .int 5, .int 0]
def aboutOver (below : List Frame) : State where
  vm := { classes := classes, interned := interned.toArray }
  heap := heap
  slotsUsed := slotsUsed
  threads := #[{ frames := .invoking theMethod args0 :: below }]
def below0 : List Frame := [.native { method := ⟨0, 0⟩, args := #[] }]
def about1 : State := aboutOver below0
def p0 : Program := .bare "" "" ""
def e0 : Env := launch0.env 0 0 0
theorem w_frames : about1.frames = Frame.invoking theMethod args0 :: below0 := rfl
set_option maxRecDepth 65536 in
theorem w_args : argsFit about1.vm theMethod args0 = true := by decide +kernel
set_option maxRecDepth 65536 in
theorem w_heap : heapFits about1 = true := by decide +kernel
set_option maxRecDepth 65536 in
theorem w_runnable : about1.curStatus? = some .runnable := by decide +kernel
set_option maxRecDepth 65536 in
theorem w_alone : about1.alone = true := by decide +kernel
set_option maxRecDepth 65536 in
theorem w_named : about1.methodNamed? x = some theMethod := by decide +kernel
set_option maxRecDepth 65536 in
theorem w_hears : about1.hears theMethod below0 = true := by decide +kernel
set_option maxRecDepth 65536 in
theorem w_ripe : about1.ripe theMethod args0 below0 = true := by decide +kernel
theorem w_running : about1.status = .running := rfl
set_option maxRecDepth 65536 in
theorem w_room : about1.hasRoom e0.platform room_1 = true :=
  launch0.hasRoom_least _ room_1 (by decide +kernel) (by decide +kernel) (by decide +kernel) (by decide +kernel) (by decide +kernel) (by decide +kernel)
theorem allAtoms_all (ts : List Jvm.Cond) (a : Array Jvm.Value) (st : Jvm.State) : (allAtoms ts).before a st = ts.all (fun c => c.before a st) := by
  induction ts with
  | nil => rfl
  | cons c t ih =>
    show (Jvm.Cond.and c (allAtoms t)).before a st = _
    rw [Jvm.Cond.before_and, ih, List.all_cons]
def words1 : List Jvm.Cond := Jvm.Cond.code x code maxLocals ret :: tables_1
/-- a 'code' word, met by the world's own term for the bytes: nothing is compared byte by byte -/
theorem code_word {y : MethodName} {bytes : ByteArray} {mx : Nat} {rt : Option FieldType} {a : Array Value} {s : State} {m : MethodId} {meth : Method} {c : Code} (h1 : s.methodNamed? y = some m) (h2 : s.vm.method? m = some meth) (h3 : meth.code = some c) (h4 : c.code = bytes)
    (h5 : (c.maxLocals == mx && c.exceptionTable.isEmpty && decide (c.maxStack ≤ mostOperands) && decide (meth.sig.returnType = rt) && !meth.locks && decide (parseMethodDescriptor y.desc = some meth.sig)) = true) : (Jvm.Cond.code y bytes mx rt).before a s = true := by
  simp only [Bool.and_eq_true, beq_iff_eq, Bool.not_eq_true', decide_eq_true_eq] at h5
  obtain ⟨⟨⟨⟨⟨g1, g2⟩, g3⟩, g4⟩, g5⟩, g6⟩ := h5
  simp [Cond.before, Cond.holds, Cond.value, h1, h2, h3, h4, g1, g2, g3, g4, g5, g6]
def isCode : Jvm.Cond → Bool
  | .code _ _ _ _ => true
  | _ => false
theorem all_split {L : List Jvm.Cond} {P : Jvm.Cond → Bool} (h1 : L.all (fun c => isCode c || P c) = true) (h2 : ∀ c ∈ L.filter isCode, P c = true) : L.all P = true := by
  refine List.all_eq_true.mpr fun c hc => ?_
  have h := List.all_eq_true.mp h1 c hc
  rcases Bool.eq_false_or_eq_true (isCode c) with hi | hi
  · exact h2 c (List.mem_filter.mpr ⟨hc, hi⟩)
  · simpa [hi] using h
set_option maxRecDepth 65536 in
theorem w_c0 : (Jvm.Cond.code x code maxLocals ret).before args0 about1 = true := code_word (m := ⟨1, 2⟩) (meth := k1m2) (c := k1c2) (by decide +kernel) rfl rfl rfl (by decide +kernel)
set_option maxRecDepth 65536 in
theorem w_c1 : (Jvm.Cond.code ({ cls := "com/example/heirring/heirring/IndexedIntSet", name := "<init>", desc := "(I)V" } : Jvm.MethodName) prog_33_method_1_code (2 : Nat) (Option.none : Option Jvm.ClassFile.FieldType)).before args0 about1 = true := code_word (m := ⟨2, 0⟩) (meth := k2m0) (c := k2c0) (by decide +kernel) rfl rfl rfl (by decide +kernel)
set_option maxRecDepth 65536 in
theorem w_c2 : (Jvm.Cond.code ({ cls := "java/lang/Object", name := "<init>", desc := "()V" } : Jvm.MethodName) object_method_1_code (1 : Nat) (Option.none : Option Jvm.ClassFile.FieldType)).before args0 about1 = true := code_word (m := ⟨0, 0⟩) (meth := k0m0) (c := k0c0) (by decide +kernel) rfl rfl rfl (by decide +kernel)
set_option maxRecDepth 65536 in
theorem w_c3 : (Jvm.Cond.code ({ cls := "java/util/Arrays", name := "fill", desc := "([II)V" } : Jvm.MethodName) jdk_65_method_103_code (4 : Nat) (Option.none : Option Jvm.ClassFile.FieldType)).before args0 about1 = true := code_word (m := ⟨3, 1⟩) (meth := k3m1) (c := k3c1) (by decide +kernel) rfl rfl rfl (by decide +kernel)
set_option maxRecDepth 65536 in
theorem w_c4 : (Jvm.Cond.code ({ cls := "com/example/heirring/heirring/IndexedIntSet", name := "add", desc := "(I)V" } : Jvm.MethodName) prog_33_method_9_code (2 : Nat) (Option.none : Option Jvm.ClassFile.FieldType)).before args0 about1 = true := code_word (m := ⟨2, 4⟩) (meth := k2m4) (c := k2c4) (by decide +kernel) rfl rfl rfl (by decide +kernel)
set_option maxRecDepth 65536 in
theorem w_c5 : (Jvm.Cond.code ({ cls := "com/example/heirring/heirring/IndexedIntSet", name := "remove", desc := "(I)V" } : Jvm.MethodName) prog_33_method_10_code (4 : Nat) (Option.none : Option Jvm.ClassFile.FieldType)).before args0 about1 = true := code_word (m := ⟨2, 5⟩) (meth := k2m5) (c := k2c5) (by decide +kernel) rfl rfl rfl (by decide +kernel)
set_option maxRecDepth 65536 in
theorem w_c6 : (Jvm.Cond.code ({ cls := "com/example/heirring/heirring/IndexedIntSet", name := "size", desc := "()I" } : Jvm.MethodName) prog_33_method_5_code (1 : Nat) (Option.some Jvm.ClassFile.FieldType.int)).before args0 about1 = true := code_word (m := ⟨2, 1⟩) (meth := k2m1) (c := k2c1) (by decide +kernel) rfl rfl rfl (by decide +kernel)
set_option maxRecDepth 65536 in
theorem w_c7 : (Jvm.Cond.code ({ cls := "com/example/heirring/heirring/IndexedIntSet", name := "place", desc := "(I)I" } : Jvm.MethodName) prog_33_method_8_code (2 : Nat) (Option.some Jvm.ClassFile.FieldType.int)).before args0 about1 = true := code_word (m := ⟨2, 3⟩) (meth := k2m3) (c := k2c3) (by decide +kernel) rfl rfl rfl (by decide +kernel)
set_option maxRecDepth 65536 in
theorem w_c8 : (Jvm.Cond.code ({ cls := "com/example/heirring/heirring/IndexedIntSetRemovePinLaw", name := "expPlace", desc := "([III)I" } : Jvm.MethodName) method_2_code (3 : Nat) (Option.some Jvm.ClassFile.FieldType.int)).before args0 about1 = true := code_word (m := ⟨1, 1⟩) (meth := k1m1) (c := k1c1) (by decide +kernel) rfl rfl rfl (by decide +kernel)
set_option maxRecDepth 65536 in
theorem w_c9 : (Jvm.Cond.code ({ cls := "com/example/heirring/heirring/IndexedIntSet", name := "get", desc := "(I)I" } : Jvm.MethodName) prog_33_method_7_code (2 : Nat) (Option.some Jvm.ClassFile.FieldType.int)).before args0 about1 = true := code_word (m := ⟨2, 2⟩) (meth := k2m2) (c := k2c2) (by decide +kernel) rfl rfl rfl (by decide +kernel)
def codes1 : List Jvm.Cond := [Jvm.Cond.code x code maxLocals ret, Jvm.Cond.code ({ cls := "com/example/heirring/heirring/IndexedIntSet", name := "<init>", desc := "(I)V" } : Jvm.MethodName) prog_33_method_1_code (2 : Nat) (Option.none : Option Jvm.ClassFile.FieldType), Jvm.Cond.code ({ cls := "java/lang/Object", name := "<init>", desc := "()V" } : Jvm.MethodName) object_method_1_code (1 : Nat) (Option.none : Option Jvm.ClassFile.FieldType), Jvm.Cond.code ({ cls := "java/util/Arrays", name := "fill", desc := "([II)V" } : Jvm.MethodName) jdk_65_method_103_code (4 : Nat) (Option.none : Option Jvm.ClassFile.FieldType), Jvm.Cond.code ({ cls := "com/example/heirring/heirring/IndexedIntSet", name := "add", desc := "(I)V" } : Jvm.MethodName) prog_33_method_9_code (2 : Nat) (Option.none : Option Jvm.ClassFile.FieldType), Jvm.Cond.code ({ cls := "com/example/heirring/heirring/IndexedIntSet", name := "remove", desc := "(I)V" } : Jvm.MethodName) prog_33_method_10_code (4 : Nat) (Option.none : Option Jvm.ClassFile.FieldType), Jvm.Cond.code ({ cls := "com/example/heirring/heirring/IndexedIntSet", name := "size", desc := "()I" } : Jvm.MethodName) prog_33_method_5_code (1 : Nat) (Option.some Jvm.ClassFile.FieldType.int), Jvm.Cond.code ({ cls := "com/example/heirring/heirring/IndexedIntSet", name := "place", desc := "(I)I" } : Jvm.MethodName) prog_33_method_8_code (2 : Nat) (Option.some Jvm.ClassFile.FieldType.int), Jvm.Cond.code ({ cls := "com/example/heirring/heirring/IndexedIntSetRemovePinLaw", name := "expPlace", desc := "([III)I" } : Jvm.MethodName) method_2_code (3 : Nat) (Option.some Jvm.ClassFile.FieldType.int), Jvm.Cond.code ({ cls := "com/example/heirring/heirring/IndexedIntSet", name := "get", desc := "(I)I" } : Jvm.MethodName) prog_33_method_7_code (2 : Nat) (Option.some Jvm.ClassFile.FieldType.int)]
set_option maxRecDepth 65536 in
theorem codes_eq : words1.filter isCode = codes1 := rfl
theorem w_codes : ∀ c ∈ words1.filter isCode, c.before args0 about1 = true := by
  rw [codes_eq]
  intro c hc
  simp only [codes1, List.mem_cons, List.not_mem_nil, or_false] at hc
  rcases hc with rfl | rfl | rfl | rfl | rfl | rfl | rfl | rfl | rfl | rfl
  · exact w_c0
  · exact w_c1
  · exact w_c2
  · exact w_c3
  · exact w_c4
  · exact w_c5
  · exact w_c6
  · exact w_c7
  · exact w_c8
  · exact w_c9
set_option maxRecDepth 65536 in
theorem w_t1 : (words1.take 24).all (fun c => isCode c || c.before args0 about1) = true := by decide +kernel
set_option maxRecDepth 65536 in
theorem w_t2 : ((words1.drop 24).take 24).all (fun c => isCode c || c.before args0 about1) = true := by decide +kernel
set_option maxRecDepth 65536 in
theorem w_t3 : ((words1.drop 24).drop 24).all (fun c => isCode c || c.before args0 about1) = true := by decide +kernel
theorem w_tables : (allAtoms (Jvm.Cond.code x code maxLocals ret :: tables_1)).before args0 about1 = true := by
  rw [allAtoms_all]
  show words1.all (fun c => c.before args0 about1) = true
  refine all_split ?_ w_codes
  rw [← List.take_append_drop 24 words1, List.all_append, w_t1, ← List.take_append_drop 24 (words1.drop 24), List.all_append, w_t2, w_t3]
  rfl
set_option maxRecDepth 65536 in
theorem w_case : (Jvm.Cond.and given_1 narrow_1).before args0 about1 = true := by decide +kernel
theorem w_applies : (headSpec (Jvm.Cond.code x code maxLocals ret :: tables_1) room_1).applies x e0.platform about1 = true :=
  (Spec.applies_iff w_frames).mpr ⟨w_running, w_runnable, w_alone, w_named, w_hears, w_ripe, w_room, w_tables⟩
theorem atStart : AtStart classFile x code maxLocals ret World_1 tables_1 room_1 Calls_1 rest_1 Pre_1 launch0 p0 e0 about1 theMethod args0 below0 :=
  ⟨lists_1, trivial, launch0.admits_env _ _ _, launch0.least_env, fairChoices_fair.cas, fairChoices_fair.clock, w_frames, w_args, w_heap, w_applies, trivial, trivial, w_case⟩
end start1
theorem witness_1 : WitnessClaimed_1 := ⟨start1.p0, start1.e0, start1.about1, start1.theMethod, start1.args0, start1.below0, start1.atStart⟩
end Jvm.Pilot.@@N@@
