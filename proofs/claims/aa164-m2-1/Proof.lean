import JvmDerived
import JvmDerived.Pilot.@@N@@Statement
import JvmDerived.Pilot.@@N@@Code
set_option linter.unusedVariables false
set_option linter.unusedSimpArgs false
namespace Jvm.Own
open Jvm Jvm.ClassFile Sem Op Lib Jvm.Free Jvm.Stand Jvm.LawKit Jvm.RoadKit
/-! ## A heap told by a list: each new object or array by its address and what its cell is -/
abbrev Des : Type := State → Cell → Prop
abbrev RL : Type := List (Addr × Des)
/-- an object of class C, its fields (name, descriptor, value), all declared in C -/
def Obj (C : String) (fs : List (String × String × Value)) : Des := fun Z c =>
  Exa Z (#[c] : Heap) 0 C ∧ (∀ (j : Nat) (x : String × String × Value), fs[j]? = some x → Fld Z (#[c] : Heap) 0 C x.1 x.2.1 x.2.2) ∧
  ∀ (i j : Nat) (x y : String × String × Value), i ≠ j → fs[i]? = some x → fs[j]? = some y → Jvm.RoadKit.slotOf Z C x.1 x.2.1 ≠ Jvm.RoadKit.slotOf Z C y.1 y.2.1
/-- an array of ty, all its values -/
def Ar (ty : FieldType) (vs : List Value) : Des := fun Z c => Z.isArrayOf c ty ∧ c.vm ≠ .unknown ∧ c.slots.toList = vs ∧ (∀ v ∈ vs, fits ty v = true) ∧ Exa Z (#[c] : Heap) 0 ("[" ++ ty.toString)
/-- every one of L lies in h, at or behind n0, no two at one place -/
def Rep (Z : State) (n0 : Nat) (h : Heap) (L : RL) : Prop := n0 ≤ h.size ∧ (L.map (·.1)).Nodup ∧ ∀ x ∈ L, n0 ≤ x.1 ∧ ∃ c : Cell, h[x.1]? = some c ∧ x.2 Z c
section Facts
variable {Z : State} {n0 : Nat} {h h' : Heap} {L : RL} {a : Addr} {c : Cell} {C n d : String} {v w : Value} {i j : Nat} {fs : List (String × String × Value)} {P P' : Des} {ty : FieldType} {vs : List Value}
theorem one_eq {c c' : Cell} (q : (#[c] : Heap)[0]? = some c') : c' = c := by simpa using q.symm
theorem fld_of (hc : h[a]? = some c) (F : Fld Z (#[c] : Heap) 0 C n d v) : Fld Z h a C n d v := by
  obtain ⟨cell, cf, k, i, f, h1, r⟩ := F
  cases one_eq h1
  exact ⟨_, cf, k, i, f, hc, r⟩
theorem fld_to (hc : h[a]? = some c) (F : Fld Z h a C n d v) : Fld Z (#[c] : Heap) 0 C n d v := by
  obtain ⟨cell, cf, k, i, f, h1, r⟩ := F
  cases hc.symm.trans h1
  exact ⟨_, cf, k, i, f, rfl, r⟩
theorem exa_of (hc : h[a]? = some c) (F : Exa Z (#[c] : Heap) 0 C) : Exa Z h a C := by
  obtain ⟨cell, k, h1, r⟩ := F
  cases one_eq h1
  exact ⟨_, k, hc, r⟩
theorem exa_to (hc : h[a]? = some c) (F : Exa Z h a C) : Exa Z (#[c] : Heap) 0 C := by
  obtain ⟨cell, k, h1, r⟩ := F
  cases hc.symm.trans h1
  exact ⟨_, k, rfl, r⟩
theorem Rep.nil (h : Heap) : Rep Z h.size h [] := ⟨Nat.le_refl _, List.nodup_nil, fun _ q => nomatch q⟩
theorem Rep.at (R : Rep Z n0 h L) (hi : L[i]? = some (a, P)) : n0 ≤ a ∧ ∃ c : Cell, h[a]? = some c ∧ P Z c := R.2.2 _ (List.mem_of_getElem? hi)
theorem Rep.ge (R : Rep Z n0 h L) (hi : L[i]? = some (a, P)) : n0 ≤ a := (R.at hi).1
theorem Rep.fld (R : Rep Z n0 h L) (hi : L[i]? = some (a, Obj C fs)) (hj : fs[j]? = some (n, d, v)) : Fld Z h a C n d v := by
  obtain ⟨-, c, hc, -, F, -⟩ := R.at hi
  exact fld_of hc (F j _ hj)
theorem Rep.exa (R : Rep Z n0 h L) (hi : L[i]? = some (a, Obj C fs)) : Exa Z h a C := by
  obtain ⟨-, c, hc, E, -⟩ := R.at hi
  exact exa_of hc E
theorem Rep.arr (R : Rep Z n0 h L) (hi : L[i]? = some (a, Ar ty vs)) : ∃ cl : Cell, Arr Z h a cl ty ∧ cl.slots.toList = vs := by
  obtain ⟨-, c, hc, A, B, V, -⟩ := R.at hi
  exact ⟨c, ⟨hc, A, B⟩, V⟩
theorem Rep.arr' (R : Rep Z n0 h L) (hi : L[i]? = some (a, Ar ty vs)) : ∃ cl : Cell, Arr Z h a cl ty ∧ cl.slots.toList = vs ∧ (∀ v ∈ vs, fits ty v = true) ∧ Exa Z h a ("[" ++ ty.toString) := by
  obtain ⟨-, c, hc, A, B, V, F, E⟩ := R.at hi
  exact ⟨c, ⟨hc, A, B⟩, V, F, exa_of hc E⟩
theorem wr_one {sl : Nat} (hc : h[a]? = some c) (W : Wr h h' a sl v) : Wr (#[c] : Heap) (#[c.setSlot sl v] : Heap) 0 sl v := by
  obtain ⟨cell, h1, h2, h3, -⟩ := W
  cases hc.symm.trans h1
  exact ⟨_, rfl, h2, h3, rfl⟩
theorem Rep.upd {sl : Nat} (R : Rep Z n0 h L) (hi : L[i]? = some (a, P)) (W : Wr h h' a sl v) (hP : ∀ c : Cell, h[a]? = some c → P Z c → P' Z (c.setSlot sl v)) : Rep Z n0 h' (L.set i (a, P')) := by
  have em : (L.set i (a, P')).map (·.1) = L.map (·.1) := by
    rw [List.map_set]
    apply List.ext_getElem?
    intro k
    rw [List.getElem?_set]
    split
    · rename_i e; subst e
      split
      · simp [hi]
      · rename_i e; simp only [List.length_map] at e; simp [List.getElem?_eq_none (Nat.le_of_not_lt e)]
    · rfl
  have il : i < L.length := (List.getElem?_eq_some_iff.mp hi).1
  refine ⟨by rw [W.size]; exact R.1, by rw [em]; exact R.2.1, fun x hx => ?_⟩
  obtain ⟨k, hk⟩ := List.mem_iff_getElem?.mp hx
  rw [List.getElem?_set] at hk
  split at hk
  · rename_i e; subst e
    cases hk
    obtain ⟨g, c, hc, p⟩ := R.at hi
    obtain ⟨c', e1, -, -, -, -, -, e7⟩ := wr_at W hc
    exact ⟨g, c', e1, by rw [(e7 rfl).1]; exact hP c hc p⟩
  · rename_i e
    obtain ⟨g, c, hc, p⟩ := R.2.2 x (List.mem_of_getElem? hk)
    have ne : x.1 ≠ a := fun q => by
      refine e ((List.getElem?_inj (l := L.map (·.1)) (by simpa using il) R.2.1).mp ?_)
      simp [hi, hk, q]
    obtain ⟨c', e1, -, -, -, e5, -⟩ := wr_at W hc
    exact ⟨g, c', e1, by rw [e5 ne]; exact p⟩
theorem Rep.put (R : Rep Z n0 h L) (hi : L[i]? = some (a, Obj C fs)) (hj : fs[j]? = some (n, d, w)) (W : Wr h h' a (Jvm.RoadKit.slotOf Z C n d) v) : Rep Z n0 h' (L.set i (a, Obj C (fs.set j (n, d, v)))) := by
  refine R.upd hi W fun c hc ⟨E, F, S⟩ => ?_
  have W1 := wr_one hc W
  have jl : j < fs.length := (List.getElem?_eq_some_iff.mp hj).1
  have key : ∀ (k : Nat) (x : String × String × Value), (fs.set j (n, d, v))[k]? = some x → ∃ y, fs[k]? = some y ∧ y.1 = x.1 ∧ y.2.1 = x.2.1 ∧ (k ≠ j → y = x) ∧ (k = j → x = (n, d, v)) := by
    intro k x hk
    rw [List.getElem?_set] at hk
    split at hk
    · rename_i e; subst e
      have hx := (Option.some.inj hk).symm
      exact ⟨(n, d, w), hj, by rw [hx], by rw [hx], fun q => absurd rfl q, fun _ => hx⟩
    · rename_i e
      exact ⟨x, hk, rfl, rfl, fun _ => rfl, fun q => absurd q.symm e⟩
  refine ⟨E.wr W1, fun k x hk => ?_, fun k k' x y ne hk hk' => ?_⟩
  · obtain ⟨y, y1, y2, y3, y4, y5⟩ := key k x hk
    by_cases e : k = j
    · subst e
      have hx := y5 rfl
      rw [hx]
      exact (F _ _ hj).same W1
    · have hx := y4 e
      subst hx
      have s : Jvm.RoadKit.slotOf Z C y.1 y.2.1 ≠ Jvm.RoadKit.slotOf Z C n d := S k j y (n, d, w) e y1 hj
      exact Fld.other W1 (F k y y1) (Or.inr s)
  · have kx := key k x hk
    have ky := key k' y hk'
    obtain ⟨x', x1, x2, x3, _⟩ := kx
    obtain ⟨y', y1, y2, y3, _⟩ := ky
    have := S k k' x' y' ne x1 y1
    rw [x2, x3, y2, y3] at this
    exact this
theorem Rep.sto {k : Nat} (R : Rep Z n0 h L) (hi : L[i]? = some (a, Ar ty vs)) (W : Wr h h' a k v) (hf : fits ty v = true) : Rep Z n0 h' (L.set i (a, Ar ty (vs.set k v))) := by
  refine R.upd hi W fun c hc ⟨A, B, V, F, E⟩ => ⟨A, B, ?_, fun x hx => ?_, E.wr (wr_one hc W)⟩
  · show (c.slots.setIfInBounds k v).toList = _
    rw [Array.toList_setIfInBounds, V]
  · rcases List.mem_or_eq_of_mem_set hx with q | q
    · exact F x q
    · rw [q]; exact hf
theorem Rep.add (R : Rep Z n0 h L) (E : Ext h h') (g : a = h.size) (hc : h'[a]? = some c) (p : P Z c) : Rep Z n0 h' ((a, P) :: L) := by
  refine ⟨Nat.le_trans R.1 E.1, ?_, fun x hx => ?_⟩
  · rw [List.map_cons, List.nodup_cons]
    refine ⟨fun q => ?_, R.2.1⟩
    obtain ⟨x, hx, e⟩ := List.mem_map.mp q
    obtain ⟨-, c, hc, -⟩ := R.2.2 x hx
    have := (Array.getElem?_eq_some_iff.mp hc).1
    exact absurd (e.trans g) (Nat.ne_of_lt this)
  · rcases List.mem_cons.mp hx with rfl | hx
    · exact ⟨g ▸ R.1, c, hc, p⟩
    · obtain ⟨q, c, hc, p⟩ := R.2.2 x hx
      exact ⟨q, c, E.2 _ _ hc, p⟩
theorem Rep.ext (R : Rep Z n0 h L) (E : Ext h h') : Rep Z n0 h' L := ⟨Nat.le_trans R.1 E.1, R.2.1, fun x hx => by
  obtain ⟨q, c, hc, p⟩ := R.2.2 x hx
  exact ⟨q, c, E.2 _ _ hc, p⟩⟩
theorem perm_front {α : Type} : ∀ (L : List α) (i : Nat) (x : α), L[i]? = some x → (x :: L.eraseIdx i).Perm L
  | [], _, _, q => nomatch q
  | y :: t, 0, x, q => by cases q; exact List.Perm.refl _
  | y :: t, i + 1, x, q => by
    have ih := perm_front t i x (by simpa using q)
    exact (List.Perm.swap y x (t.eraseIdx i)).trans (ih.cons y)
theorem Rep.front {x : Addr × Des} {L' : RL} (R : Rep Z n0 h L) (i : Nat) (hi : L[i]? = some x) (e : L.eraseIdx i = L') : Rep Z n0 h (x :: L') := by
  subst e
  have pm : (x :: L.eraseIdx i).Perm L := perm_front L i x hi
  exact ⟨R.1, (pm.map _).nodup_iff.mpr R.2.1, fun y hy => R.2.2 y (pm.mem_iff.mp hy)⟩
theorem Rep.tail {x : Addr × Des} (R : Rep Z n0 h (x :: L)) : Rep Z n0 h L := ⟨R.1, (List.nodup_cons.mp (by simpa using R.2.1)).2, fun y hy => R.2.2 y (List.mem_cons_of_mem _ hy)⟩
/-- what the sheet says of the fields of a new object, one by one -/
def LaidAll (Z : State) (a0 : Array Value) (C : String) : List (String × String × Value) → Prop
  | [] => True
  | x :: r => (Laid Z a0 C C x.1 x.2.1 ∧ ∃ ty, parseFieldDescriptor x.2.1 = some ty ∧ x.2.2 = defaultValue ty) ∧ LaidAll Z a0 C r
theorem LaidAll.mem {a0 : Array Value} : ∀ {fs : List (String × String × Value)}, LaidAll Z a0 C fs → ∀ x ∈ fs, Laid Z a0 C C x.1 x.2.1 ∧ ∃ ty, parseFieldDescriptor x.2.1 = some ty ∧ x.2.2 = defaultValue ty
  | [], _, _, hx => nomatch hx
  | y :: r, q, x, hx => (List.mem_cons.mp hx).elim (fun e => e ▸ q.1) (LaidAll.mem q.2 x)
theorem Rep.newO {a0 : Array Value} (R : Rep Z n0 h L) (E : Ext h h') (g : a = h.size) (A : Exa Z h' a C) (D : ∀ {O nm d : String} {ty : FieldType}, Laid Z a0 C O nm d → parseFieldDescriptor d = some ty → Fld Z h' a O nm d (defaultValue ty)) (hl : LaidAll Z a0 C fs) (hn : (fs.map (·.1)).Nodup) : Rep Z n0 h' ((a, Obj C fs) :: L) := by
  obtain ⟨c, k, hc, r⟩ := id A
  refine R.add E g hc ⟨exa_to hc A, fun j x hx => ?_, fun i j x y ne hx hy e => ?_⟩
  · obtain ⟨l, ty, p, q⟩ := hl.mem x (List.mem_of_getElem? hx)
    rw [q]; exact fld_to hc (D l p)
  · obtain ⟨l, ty, p, q⟩ := hl.mem x (List.mem_of_getElem? hx)
    obtain ⟨l', ty', p', q'⟩ := hl.mem y (List.mem_of_getElem? hy)
    refine slot_ne l l' (fun en => ne ?_) p p' e
    refine (List.getElem?_inj (l := fs.map (·.1)) (by simpa using (List.getElem?_eq_some_iff.mp hx).1) hn).mp ?_
    simp [hx, hy, en]
theorem Rep.newAr {z : Int32} {k : ClassId} (R : Rep Z n0 h L) (E : Ext h h') (g : a = h.size) (A : Arr Z h' a (newA k ty z) ty) (X : Exa Z h' a ("[" ++ ty.toString)) (hf : fits ty (defaultValue ty) = true) (hv : List.replicate z.toNatClampNeg (defaultValue ty) = vs) : Rep Z n0 h' ((a, Ar ty vs) :: L) := by
  refine R.add E g A.1 ⟨A.2.1, A.2.2, ?_, fun v hq => ?_, exa_to A.1 X⟩
  · rw [← hv]; simp [newA]
  · rw [← hv] at hq; rw [List.eq_of_mem_replicate hq]; exact hf
theorem in_of {cl : Cell} {q : Int32} (V : cl.slots.toList = vs) (hq : ¬ q < 0) (hv : q.toNatClampNeg < vs.length) : ¬ (q < 0 ∨ cl.slots.size ≤ q.toNatClampNeg) := by
  rintro (q1 | q1)
  · exact hq q1
  · rw [← V, Array.length_toList] at hv; omega
theorem at_of {cl : Cell} {k : Nat} (V : cl.slots.toList = vs) (hv : vs[k]? = some v) : cl.slots[k]? = some v := by
  rw [← hv, ← V, Array.getElem?_toList]
theorem lt_of {k : Nat} (hv : vs[k]? = some v) : k < vs.length := (List.getElem?_eq_some_iff.mp hv).1
end Facts
/-! ## One law a step -/
section Steps
variable {p : Program} {l : Launch} {e : Env} {R : Room} {s : State} {m : MethodId} {args : Array Value} {below : List Frame} {meth : Method} {c : Code} {T : State} {locs : List Loc} {cells slots : Nat} {Z : State} {a0 : Array Value} {h : Heap} {n0 : Nat} {L : RL}
theorem gGet (X : Stand p l e R s m args below meth c T locs cells slots) (hx : p.tables.exec = Jvm.exec) (hZ : Z.Warmed39 s.vm) {own C n d host : String} {index : Nat} (hown : s.vm.findClass own = some m.cls) (w : (Cond.fieldLink own index C n d).before a0 Z = true ∨ (Cond.fieldLinkNest own index C n d host).before a0 Z = true)
    (eT : T.heap = h) (Q : Rep Z n0 h L) (i j : Nat) {a : Addr} {fs : List (String × String × Value)} {v : Value} (hi : L[i]? = some (a, Obj C fs)) (hj : fs[j]? = some (n, d, v)) {g : JFrame} (hg : g.method = m) {rest : List Value} (hs : g.stack = .ref a :: rest) (hd : decode c.code g.pc = .ok (.getfield index, 3)) :
    ∃ T', Stand p l e R s m args below meth c T' locs cells slots ∧ T'.heap = h ∧ ∀ target, Steps p.tables e below (T'.setTop { g with pc := g.pc + 3, stack := v :: rest }) target → Steps p.tables e below (T.setTop g) target :=
  getF X hx hZ hown w Via.refl eT (Q.fld hi hj) hg hs hd
theorem gPut (X : Stand p l e R s m args below meth c T locs cells slots) (hx : p.tables.exec = Jvm.exec) (hZ : Z.Warmed39 s.vm) {own C n d host : String} {index kk : Nat} {ty : FieldType} (hown : s.vm.findClass own = some m.cls) (w : (Cond.fieldLink own index C n d).before a0 Z = true ∨ (Cond.fieldLinkNest own index C n d host).before a0 Z = true)
    (eT : T.heap = h) (N : Fr n0 locs) (Q : Rep Z n0 h L) (i j : Nat) {a : Addr} {fs : List (String × String × Value)} {v old : Value} (hi : L[i]? = some (a, Obj C fs)) (hj : fs[j]? = some (n, d, old))
    (Lw : (Cond.lays C C n d).before a0 Z = true ∨ ((Cond.laysFinal C C n d).before a0 Z = true ∧ own = C ∧ meth.name = "<init>")) (wi : (Cond.instantiable C kk).before a0 Z = true)
    (hty : parseFieldDescriptor d = some ty) (hn : narrow ty v = v) (hf : fits ty v = true) {g : JFrame} (hg : g.method = m) {rest : List Value} (hs : g.stack = v :: .ref a :: rest) (hd : decode c.code g.pc = .ok (.putfield index, 3)) :
    ∃ T' h' locs', Stand p l e R s m args below meth c T' locs' cells slots ∧ T'.heap = h' ∧ Fr n0 locs' ∧ Rep Z n0 h' (L.set i (a, Obj C (fs.set j (n, d, v)))) ∧ ∀ target, Steps p.tables e below (T'.setTop { g with pc := g.pc + 3, stack := rest }) target → Steps p.tables e below (T.setTop g) target := by
  obtain ⟨T', h', X', e', W, st⟩ := putF X hx hZ hown w Via.refl eT (Q.fld hi hj) (Q.exa hi) Lw wi hty hn hf hg hs hd
  exact ⟨T', h', _, X', e', Fr.snoc X' N (Q.ge hi), Q.put hi hj W, st⟩
theorem gNew (X : Stand p l e R s m args below meth c T locs cells slots) (hx : p.tables.exec = Jvm.exec) (hZ : Z.Warmed39 s.vm) {own C : String} {index n : Nat} (hown : s.vm.findClass own = some m.cls) (w : (Cond.classLink own index C).before a0 Z = true) (wi : (Cond.instantiable C n).before a0 Z = true) (wz : (Cond.initialized C).before a0 Z = true)
    (eT : T.heap = h) (Q : Rep Z n0 h L) {fs : List (String × String × Value)} (hl : LaidAll Z a0 C fs) (hn : (fs.map (·.1)).Nodup) {g : JFrame} (hg : g.method = m) (hd : decode c.code g.pc = .ok (.new index, 3)) (hc : cells + 1 ≤ R.cells) (hs : slots + n ≤ R.slots) :
    ∃ T' h' a, Stand p l e R s m args below meth c T' locs (cells + 1) (slots + n) ∧ T'.heap = h' ∧ Rep Z n0 h' ((a, Obj C fs) :: L) ∧ ∀ target, Steps p.tables e below (T'.setTop { g with pc := g.pc + 3, stack := .ref a :: g.stack }) target → Steps p.tables e below (T.setTop g) target := by
  obtain ⟨T', h', X', e', E, A, D, -, st⟩ := newO X hx hZ hown w wi wz eT hg hd hc hs
  exact ⟨T', h', _, X', e', Q.newO E rfl A D hl hn, st⟩
theorem gNewP (X : Stand p l e R s m args below meth c T locs cells slots) (hx : p.tables.exec = Jvm.exec) (hZ : Z.Warmed39 s.vm) {aty : ArrayType} (w : (Cond.arrayClass (newarray.typeOf aty)).before a0 Z = true)
    (eT : T.heap = h) (Q : Rep Z n0 h L) {g : JFrame} (hg : g.method = m) (hd : decode c.code g.pc = .ok (.newarray aty, 2)) {n : Int32} {rest : List Value} (hs : g.stack = .int n :: rest) (hn : ¬ n < 0) (cap : Nat) (hcap : n.toNatClampNeg ≤ cap) (hb : cap * 8 ≤ 536870912) (hc : cells + 1 ≤ R.cells) (hl : slots + cap ≤ R.slots)
    {vs : List Value} (hv : List.replicate n.toNatClampNeg (defaultValue (newarray.typeOf aty)) = vs) :
    ∃ T' h' a, Stand p l e R s m args below meth c T' locs (cells + 1) (slots + cap) ∧ T'.heap = h' ∧ Rep Z n0 h' ((a, Ar (newarray.typeOf aty) vs) :: L) ∧ ∀ target, Steps p.tables e below (T'.setTop { g with pc := g.pc + 2, stack := .ref a :: rest }) target → Steps p.tables e below (T.setTop g) target := by
  obtain ⟨T', h', cA, X', e', E, A, EX, st⟩ := newPE X hx hZ w eT hg hd hs hn hcap hb hc hl rfl
  exact ⟨T', h', _, X', e', Q.newAr E rfl A EX (by cases aty <;> rfl) hv, st⟩
theorem gLen (X : Stand p l e R s m args below meth c T locs cells slots) (hx : p.tables.exec = Jvm.exec) (hZ : Z.Warmed39 s.vm) (eT : T.heap = h) (Q : Rep Z n0 h L) (i : Nat) {a : Addr} {ty : FieldType} {vs : List Value} (hi : L[i]? = some (a, Ar ty vs))
    {g : JFrame} (hg : g.method = m) {rest : List Value} (hs : g.stack = .ref a :: rest) (hd : decode c.code g.pc = .ok (.arraylength, 1)) {z : Int32} (hz : Int32.ofNat vs.length = z) :
    ∀ target, Steps p.tables e below (T.setTop { g with pc := g.pc + 1, stack := .int z :: rest }) target → Steps p.tables e below (T.setTop g) target := by
  obtain ⟨cl, A, V⟩ := Q.arr hi
  intro target k
  refine X.arraylength hx (cell := cl) (by rw [eT]; exact A.1) (State.isArrayOf_alike hZ.alike A.2.1) hg hs hd _ ?_
  have q : cl.slots.size.toInt32 = z := by rw [← hz, ← V, Array.length_toList]
  rw [q]; exact k
theorem gIald (X : Stand p l e R s m args below meth c T locs cells slots) (hx : p.tables.exec = Jvm.exec) (hZ : Z.Warmed39 s.vm) (eT : T.heap = h) (Q : Rep Z n0 h L) (i : Nat) {a : Addr} {vs : List Value} (hi : L[i]? = some (a, Ar .int vs))
    {j : Int32} {v : Value} (hj : ¬ j < 0) (hv : vs[j.toNatClampNeg]? = some v) {g : JFrame} (hg : g.method = m) {rest : List Value} (hs : g.stack = .int j :: .ref a :: rest) (hd : decode c.code g.pc = .ok (.iaload, 1)) :
    ∀ target, Steps p.tables e below (T.setTop { g with pc := g.pc + 1, stack := v :: rest }) target → Steps p.tables e below (T.setTop g) target := by
  obtain ⟨cl, A, V⟩ := Q.arr hi
  intro target k
  exact X.iaload hx (by rw [eT]; exact A.1) (State.isArrayOf_alike hZ.alike A.2.1) A.2.2 (in_of V hj (lt_of hv)) (at_of V hv) hg hs hd _ k
theorem gLald (X : Stand p l e R s m args below meth c T locs cells slots) (hx : p.tables.exec = Jvm.exec) (hZ : Z.Warmed39 s.vm) (eT : T.heap = h) (Q : Rep Z n0 h L) (i : Nat) {a : Addr} {vs : List Value} (hi : L[i]? = some (a, Ar .long vs))
    {j : Int32} {v : Value} (hj : ¬ j < 0) (hv : vs[j.toNatClampNeg]? = some v) {g : JFrame} (hg : g.method = m) {rest : List Value} (hs : g.stack = .int j :: .ref a :: rest) (hd : decode c.code g.pc = .ok (.laload, 1)) :
    ∀ target, Steps p.tables e below (T.setTop { g with pc := g.pc + 1, stack := v :: rest }) target → Steps p.tables e below (T.setTop g) target := by
  obtain ⟨cl, A, V⟩ := Q.arr hi
  intro target k
  exact X.laload hx (by rw [eT]; exact A.1) (State.isArrayOf_alike hZ.alike A.2.1) A.2.2 (in_of V hj (lt_of hv)) (at_of V hv) hg hs hd _ k
theorem gBald (X : Stand p l e R s m args below meth c T locs cells slots) (hx : p.tables.exec = Jvm.exec) (hZ : Z.Warmed39 s.vm) (eT : T.heap = h) (Q : Rep Z n0 h L) (i : Nat) {a : Addr} {vs : List Value} (hi : L[i]? = some (a, Ar .byte vs))
    {j : Int32} {v : Value} (hj : ¬ j < 0) (hv : vs[j.toNatClampNeg]? = some v) {g : JFrame} (hg : g.method = m) {rest : List Value} (hs : g.stack = .int j :: .ref a :: rest) (hd : decode c.code g.pc = .ok (.baload, 1)) :
    ∀ target, Steps p.tables e below (T.setTop { g with pc := g.pc + 1, stack := v :: rest }) target → Steps p.tables e below (T.setTop g) target := by
  obtain ⟨cl, A, V⟩ := Q.arr hi
  intro target k
  exact X.baloadBytes hx (by rw [eT]; exact A.1) (State.isArrayOf_alike hZ.alike A.2.1) A.2.2 (in_of V hj (lt_of hv)) (at_of V hv) hg hs hd _ k
theorem gIst (X : Stand p l e R s m args below meth c T locs cells slots) (hx : p.tables.exec = Jvm.exec) (hZ : Z.Warmed39 s.vm) (eT : T.heap = h) (N : Fr n0 locs) (Q : Rep Z n0 h L) (i : Nat) {a : Addr} {vs : List Value} (hi : L[i]? = some (a, Ar .int vs))
    {j x : Int32} (hj : ¬ j < 0) (k : Nat) (hk : j.toNatClampNeg = k) (hv : k < vs.length) {g : JFrame} (hg : g.method = m) {rest : List Value} (hs : g.stack = .int x :: .int j :: .ref a :: rest) (hd : decode c.code g.pc = .ok (.iastore, 1)) :
    ∃ T' h' locs', Stand p l e R s m args below meth c T' locs' cells slots ∧ T'.heap = h' ∧ Fr n0 locs' ∧ Rep Z n0 h' (L.set i (a, Ar .int (vs.set k (.int x)))) ∧ ∀ target, Steps p.tables e below (T'.setTop { g with pc := g.pc + 1, stack := rest }) target → Steps p.tables e below (T.setTop g) target := by
  obtain ⟨cl, A, V⟩ := Q.arr hi
  subst hk
  obtain ⟨T', h', X', e', W, st⟩ := stI X hx hZ eT A (j := j) (x := x) (in_of V hj hv) hg hs hd
  exact ⟨T', h', _, X', e', Fr.snoc X' N (Q.ge hi), Q.sto hi W rfl, st⟩
theorem gLst (X : Stand p l e R s m args below meth c T locs cells slots) (hx : p.tables.exec = Jvm.exec) (hZ : Z.Warmed39 s.vm) (eT : T.heap = h) (N : Fr n0 locs) (Q : Rep Z n0 h L) (i : Nat) {a : Addr} {vs : List Value} (hi : L[i]? = some (a, Ar .long vs))
    {j : Int32} {x : Int64} (hj : ¬ j < 0) (k : Nat) (hk : j.toNatClampNeg = k) (hv : k < vs.length) {g : JFrame} (hg : g.method = m) {rest : List Value} (hs : g.stack = .long x :: .int j :: .ref a :: rest) (hd : decode c.code g.pc = .ok (.lastore, 1)) :
    ∃ T' h' locs', Stand p l e R s m args below meth c T' locs' cells slots ∧ T'.heap = h' ∧ Fr n0 locs' ∧ Rep Z n0 h' (L.set i (a, Ar .long (vs.set k (.long x)))) ∧ ∀ target, Steps p.tables e below (T'.setTop { g with pc := g.pc + 1, stack := rest }) target → Steps p.tables e below (T.setTop g) target := by
  obtain ⟨cl, A, V⟩ := Q.arr hi
  subst hk
  obtain ⟨T', h', X', e', W, st⟩ := stJ X hx hZ eT A (j := j) (x := x) (in_of V hj hv) hg hs hd
  exact ⟨T', h', _, X', e', Fr.snoc X' N (Q.ge hi), Q.sto hi W rfl, st⟩
theorem gBst (X : Stand p l e R s m args below meth c T locs cells slots) (hx : p.tables.exec = Jvm.exec) (hZ : Z.Warmed39 s.vm) (eT : T.heap = h) (N : Fr n0 locs) (Q : Rep Z n0 h L) (i : Nat) {a : Addr} {vs : List Value} (hi : L[i]? = some (a, Ar .byte vs))
    {j x : Int32} (hj : ¬ j < 0) (k : Nat) (hk : j.toNatClampNeg = k) (hv : k < vs.length) {g : JFrame} (hg : g.method = m) {rest : List Value} (hs : g.stack = .int x :: .int j :: .ref a :: rest) (hd : decode c.code g.pc = .ok (.bastore, 1)) :
    ∃ T' h' locs', Stand p l e R s m args below meth c T' locs' cells slots ∧ T'.heap = h' ∧ Fr n0 locs' ∧ Rep Z n0 h' (L.set i (a, Ar .byte (vs.set k (.int x.toInt8.toInt32)))) ∧ ∀ target, Steps p.tables e below (T'.setTop { g with pc := g.pc + 1, stack := rest }) target → Steps p.tables e below (T.setTop g) target := by
  obtain ⟨cl, A, V⟩ := Q.arr hi
  subst hk
  obtain ⟨T', h', X', e', W, st⟩ := stB X hx hZ eT A (j := j) (x := x) (in_of V hj hv) hg hs hd
  exact ⟨T', h', _, X', e', Fr.snoc X' N (Q.ge hi), Q.sto hi W (fits_nar_byte x), st⟩
theorem gClone (X : Stand p l e R s m args below meth c T locs cells slots) (hx : p.tables.exec = Jvm.exec) (hZ : Z.Warmed39 s.vm) {own ad : String} {index : Nat} (hown : s.vm.findClass own = some m.cls)
    (w1 : (Cond.methodLink own index ⟨ad, "clone", "()Ljava/lang/Object;"⟩).before a0 Z = true) (w2 : (Cond.sameMethod ad "java/lang/Object" "clone" "()Ljava/lang/Object;").before a0 Z = true) (w3 : (Cond.native ⟨"java/lang/Object", "clone", "()Ljava/lang/Object;"⟩).before a0 Z = true)
    (w4 : (Cond.instanceMethod ⟨"java/lang/Object", "clone", "()Ljava/lang/Object;"⟩).before a0 Z = true) (w5 : (Cond.selects ad ⟨ad, "clone", "()Ljava/lang/Object;"⟩ ⟨"java/lang/Object", "clone", "()Ljava/lang/Object;"⟩).before a0 Z = true) (w6 : (Cond.castable ad "java/lang/Cloneable").before a0 Z = true)
    (eT : T.heap = h) (Q : Rep Z n0 h L) (i : Nat) {a : Addr} {ty : FieldType} {vs : List Value} (hi : L[i]? = some (a, Ar ty vs)) (had : "[" ++ ty.toString = ad) {g : JFrame} (hg : g.method = m) (hsize : g.locals.size = c.maxLocals) {rest : List Value} (hs : g.stack = .ref a :: rest) (hd : decode c.code g.pc = .ok (.invokevirtual index, 3))
    (hf : 1 ≤ R.frames) {W : Nat} (cap : Nat) (hW : 2 * g.monitorRoom + (rest.map fun v => v.category).sum ≤ W) (hl : W + 14 ≤ R.locals) (hcap : vs.length ≤ cap) (hc : cells + 1 ≤ R.cells) (hsl : slots + cap ≤ R.slots) :
    ∃ T' h' b, Stand p l e R s m args below meth c T' locs (cells + 1) (slots + cap) ∧ T'.heap = h' ∧ Rep Z n0 h' ((b, Ar ty vs) :: L) ∧ Exa Z h' b ad ∧
      ∀ target, Steps p.tables e below (T'.setTop { g with pc := g.pc + 3, stack := .ref b :: rest }) target → Steps p.tables e below (T.setTop g) target := by
  subst had
  obtain ⟨cl, A, V, F, E⟩ := Q.arr' hi
  have FC : FitC Z cl := fitC_of A fun k hk v hv => F v (by rw [← V]; exact Array.mem_toList_iff.mpr (Array.mem_of_getElem? hv))
  obtain ⟨T', h', X', e', ex, A', E', st⟩ := cloneA X hx hZ hown w1 w2 w3 w4 w5 w6 eT A E FC hg hsize hs hd hf hW hl (by rw [← V, Array.length_toList] at hcap; exact hcap) hc hsl
  exact ⟨T', h', _, X', e', Q.add ex rfl A'.1 ⟨A'.2.1, A'.2.2, V, F, exa_to A'.1 E'⟩, E', st⟩
theorem gCast (X : Stand p l e R s m args below meth c T locs cells slots) (hx : p.tables.exec = Jvm.exec) (hZ : Z.Warmed39 s.vm) {own K : String} {index : Nat} (hown : s.vm.findClass own = some m.cls) (w : (Cond.classLink own index K).before a0 Z = true) (eT : T.heap = h) {a : Addr} (E : Exa Z h a K)
    {g : JFrame} (hg : g.method = m) {rest : List Value} (hs : g.stack = .ref a :: rest) (hd : decode c.code g.pc = .ok (.checkcast index, 3)) : ∃ T', Stand p l e R s m args below meth c T' locs cells slots ∧ T'.heap = h ∧ ∀ target, Steps p.tables e below (T'.setTop { g with pc := g.pc + 3 }) target → Steps p.tables e below (T.setTop g) target :=
  castY X hx hZ hown w eT (Ins.self E) hg hs hd
theorem arv_of {a : Addr} {ty : FieldType} {vs : List Value} {dv : Value} {cl : Cell} (A : Arr Z h a cl ty) (V : cl.slots.toList = vs) (F : ∀ v ∈ vs, fits ty v = true) (hl : vs.length < 2 ^ 31) : Arv Z h a cl.cls ty (Int32.ofNat vs.length) vs dv := by
  have q : (Int32.ofNat vs.length).toNatClampNeg = vs.length := by
    rw [Int32.toNatClampNeg, Int32.toInt_ofNat_of_lt hl]; rfl
  have S : cl.slots.size = vs.length := by rw [← V, Array.length_toList]
  have G : ∀ k, k < cl.slots.size → cl.slots[k]? = some (vs.getD k dv) := fun k hk => by
    rw [← Array.getElem?_toList, V, List.getD_eq_getElem?_getD, List.getElem?_eq_getElem (by omega)]; rfl
  refine ⟨cl, A, rfl, by rw [q, S], ?_, G, fun k hk => ?_⟩
  · rw [Int32.lt_iff_toInt_lt, Int32.toInt_ofNat_of_lt hl, show (0 : Int32).toInt = 0 from rfl]; omega
  · rw [List.getD_eq_getElem?_getD, List.getElem?_eq_getElem (by omega)]
    exact F _ (List.getElem_mem _)
theorem Rep.kept {h' : Heap} {i : Nat} {b : Addr} {P P' : Des} {cb : Cell} (Q : Rep Z n0 h L) (hi : L[i]? = some (b, P)) (K : Keep h h' [b]) (hc : h'[b]? = some cb) (p : P' Z cb) : Rep Z n0 h' (L.set i (b, P')) := by
  have em : (L.set i (b, P')).map (·.1) = L.map (·.1) := by
    rw [List.map_set]
    apply List.ext_getElem?
    intro k
    rw [List.getElem?_set]
    split
    · rename_i e; subst e
      split
      · simp [hi]
      · rename_i e; simp only [List.length_map] at e; simp [List.getElem?_eq_none (Nat.le_of_not_lt e)]
    · rfl
  have il : i < L.length := (List.getElem?_eq_some_iff.mp hi).1
  refine ⟨Nat.le_trans Q.1 K.1, by rw [em]; exact Q.2.1, fun x hx => ?_⟩
  obtain ⟨k, hk⟩ := List.mem_iff_getElem?.mp hx
  rw [List.getElem?_set] at hk
  split at hk
  · rename_i e; subst e
    cases hk
    exact ⟨Q.ge hi, cb, hc, p⟩
  · rename_i e
    obtain ⟨g, c, hc', p'⟩ := Q.2.2 x (List.mem_of_getElem? hk)
    have ne : x.1 ≠ b := fun q => by
      refine e ((List.getElem?_inj (l := L.map (·.1)) (by simpa using il) Q.2.1).mp ?_)
      simp [hi, hk, q]
    exact ⟨g, c, K.2.1 _ _ hc' (by simpa using ne), p'⟩
theorem gCopy (X : Stand p l e R s m args below meth c T locs cells slots) (hx : p.tables.exec = Jvm.exec) (hZ : Z.Warmed39 s.vm) {own : String} {index : Nat} (hown : s.vm.findClass own = some m.cls)
    (w1 : (Cond.methodLink own index Jvm.Stand.acN).before a0 Z = true) (w2 : (Cond.native Jvm.Stand.acN).before a0 Z = true) (w3 : (Cond.static Jvm.Stand.acN).before a0 Z = true) (w4 : (Cond.initialized "java/lang/System").before a0 Z = true) (eT : T.heap = h) (N : Fr n0 locs) (Q : Rep Z n0 h L) (i j : Nat)
    {a b : Addr} {ty : FieldType} {vs vd : List Value} (hi : L[i]? = some (a, Ar ty vs)) (hj : L[j]? = some (b, Ar ty vd)) (hty : refKind ty = false) (l1 : vs.length < 2 ^ 31) (l2 : vd.length < 2 ^ 31) {sp dp nn : Int32} (h1 : ¬ sp < 0) (h2 : ¬ dp < 0) (h3 : ¬ nn < 0) (si di ni : Nat) (es : sp.toNatClampNeg = si) (ed : dp.toNatClampNeg = di) (en : nn.toNatClampNeg = ni)
    (h4 : si + ni ≤ vs.length) (h5 : di + ni ≤ vd.length)
    {g : JFrame} (hg : g.method = m) (hsize : g.locals.size = c.maxLocals) {rest : List Value} (hs : g.stack = .int nn :: .int dp :: .ref b :: .int sp :: .ref a :: rest) (hd : decode c.code g.pc = .ok (.invokestatic index, 3))
    (hf : 1 ≤ R.frames) {W : Nat} (hW : 2 * g.monitorRoom + (rest.map fun v => v.category).sum ≤ W) (hlo : W + (nativeFrameWords "java/lang/System" "arraycopy" 5 + 11) ≤ R.locals) :
    ∃ T' h' L', Stand p l e R s m args below meth c T' L' cells slots ∧ T'.heap = h' ∧ Fr n0 L' ∧ Rep Z n0 h' (L.set j (b, Ar ty (vd.take di ++ (vs.drop si).take ni ++ vd.drop (di + ni)))) ∧
      ∀ target, Steps p.tables e below (T'.setTop { g with pc := g.pc + 3, stack := rest }) target → Steps p.tables e below (T.setTop g) target := by
  subst es ed en
  obtain ⟨ca, A, Va, Fa, Ea⟩ := Q.arr' hi
  obtain ⟨cb, B, Vb, Fb, Eb⟩ := Q.arr' hj
  have za : (Int32.ofNat vs.length).toNatClampNeg = vs.length := by rw [Int32.toNatClampNeg, Int32.toInt_ofNat_of_lt l1]; rfl
  have zb : (Int32.ofNat vd.length).toNatClampNeg = vd.length := by rw [Int32.toNatClampNeg, Int32.toInt_ofNat_of_lt l2]; rfl
  have hus : (vs.drop sp.toNatClampNeg).take nn.toNatClampNeg = (List.range nn.toNatClampNeg).map fun k => vs.getD (sp.toNatClampNeg + k) .null := by
    apply List.ext_getElem?
    intro k
    rw [List.getElem?_take, List.getElem?_drop, List.getElem?_map]
    by_cases q : k < nn.toNatClampNeg
    · rw [if_pos q, List.getElem?_range q, List.getElem?_eq_getElem (by omega)]
      simp [List.getD_eq_getElem?_getD, List.getElem?_eq_getElem (show sp.toNatClampNeg + k < vs.length by omega)]
    · rw [if_neg q, List.getElem?_eq_none (by simpa using q)]; rfl
  obtain ⟨T', h', L', X', e', N', K, ⟨c', A', -, S', -, H', G'⟩, st⟩ := cpA X hx hZ hown w1 w2 w3 w4 eT (arv_of (dv := .null) A Va Fa l1) (arv_of (dv := .null) B Vb Fb l2) (Or.inl ⟨rfl, hty⟩) h1 h2 h3 (by rw [za]; exact h4) (by rw [zb]; exact h5) hus h5 N (Q.ge hj) hg hsize hs hd hf hW hlo
  refine ⟨T', h', L', X', e', N', Q.kept hj K A'.1 ⟨A'.2.1, A'.2.2, ?_, fun v hv => ?_, exa_to A'.1 (Eb.keep K)⟩, st⟩
  · apply List.ext_getElem?
    intro k
    rw [Array.getElem?_toList]
    by_cases q : k < c'.slots.size
    · rw [H' k q, List.getD_eq_getElem?_getD, List.getElem?_eq_getElem]
      · rfl
      · rw [S', zb] at q; simp only [List.length_append, List.length_take, List.length_drop]; omega
    · rw [Array.getElem?_eq_none (by omega), List.getElem?_eq_none]
      rw [S', zb] at q; simp only [List.length_append, List.length_take, List.length_drop]; omega
  · rcases List.mem_append.mp hv with hv | hv
    · rcases List.mem_append.mp hv with hv | hv
      · exact Fb v (List.mem_of_mem_take hv)
      · exact Fa v (List.mem_of_mem_drop (List.mem_of_mem_take hv))
    · exact Fb v (List.mem_of_mem_drop hv)
theorem gMono (X : Stand p l e R s m args below meth c T locs cells slots) {cells' slots' : Nat} (h1 : cells ≤ cells') (h2 : slots ≤ slots') : Stand p l e R s m args below meth c T locs cells' slots' := { X with same := X.same.mono h1 h2 }
theorem retI (X : Stand p l e R s m args below meth c T locs cells slots) (hx : p.tables.exec = Jvm.exec) {pc : Nat} {Ls : Array Slot} {z : Int32} {rest : List Value} (hret : meth.sig.returnType = some .int) (hd : decode c.code pc = .ok (.ireturn, 1)) {fs : List Frame}
    (hl : ∀ (f : JFrame) (acts : List Action), f.method = m → f.locked = none → f.entered = [] → (doReturn e (T.setTop f) acts (some (.int z))).1 = T.setFrames fs) : Steps p.tables e below (T.setTop (mkF m pc Ls (.int z :: rest))) (T.setFrames fs) := by
  have hm' : T.vm.method? m = some meth := X.method'
  have hn : narrow .int (.int z) = .int z := rfl
  show Steps p.tables e below (T.setTop { method := m, pc := pc, locals := Ls, stack := _ :: rest, locked := none }) _
  jvm_step X.here [X.here.top, hx, hd, hm', hret, hn]
  first | (intro acts; rw [hl _ acts rfl rfl rfl]) | rw [hl _ _ rfl rfl rfl]
  exact Steps.refl _
theorem retL (X : Stand p l e R s m args below meth c T locs cells slots) (hx : p.tables.exec = Jvm.exec) {pc : Nat} {Ls : Array Slot} {z : Int64} {rest : List Value} (hret : meth.sig.returnType = some .long) (hd : decode c.code pc = .ok (.lreturn, 1)) {fs : List Frame}
    (hl : ∀ (f : JFrame) (acts : List Action), f.method = m → f.locked = none → f.entered = [] → (doReturn e (T.setTop f) acts (some (.long z))).1 = T.setFrames fs) : Steps p.tables e below (T.setTop (mkF m pc Ls (.long z :: rest))) (T.setFrames fs) := by
  have hm' : T.vm.method? m = some meth := X.method'
  have hn : narrow .long (.long z) = .long z := rfl
  show Steps p.tables e below (T.setTop { method := m, pc := pc, locals := Ls, stack := _ :: rest, locked := none }) _
  jvm_step X.here [X.here.top, hx, hd, hm', hret, hn]
  first | (intro acts; rw [hl _ acts rfl rfl rfl]) | rw [hl _ _ rfl rfl rfl]
  exact Steps.refl _
theorem retA (X : Stand p l e R s m args below meth c T locs cells slots) (hx : p.tables.exec = Jvm.exec) {pc : Nat} {Ls : Array Slot} {a : Addr} {rest : List Value} {t : FieldType} (ht : t.isReference = true) (hret : meth.sig.returnType = some t) (hd : decode c.code pc = .ok (.areturn, 1)) {fs : List Frame}
    (hl : ∀ (f : JFrame) (acts : List Action), f.method = m → f.locked = none → f.entered = [] → (doReturn e (T.setTop f) acts (some (.ref a))).1 = T.setFrames fs) : Steps p.tables e below (T.setTop (mkF m pc Ls (.ref a :: rest))) (T.setFrames fs) := by
  have hm' : T.vm.method? m = some meth := X.method'
  show Steps p.tables e below (T.setTop { method := m, pc := pc, locals := Ls, stack := _ :: rest, locked := none }) _
  jvm_step X.here [X.here.top, hx, hd, hm', hret, ht, Value.isRef]
  first | (intro acts; rw [hl _ acts rfl rfl rfl]) | rw [hl _ _ rfl rfl rfl]
  exact Steps.refl _
end Steps
abbrev iushr (x y : Int32) : Int32 := (x.toUInt32 >>> (y &&& 31).toUInt32).toInt32
abbrev lushr (x : Int64) (y : Int32) : Int64 := (x.toUInt64 >>> (y &&& 0x3f).toInt64.toUInt64).toInt64
abbrev ishl (x y : Int32) : Int32 := x <<< (y &&& 31)
abbrev ishr (x y : Int32) : Int32 := x >>> (y &&& 31)
abbrev lshl (x : Int64) (y : Int32) : Int64 := x <<< (y &&& 0x3f).toInt64
abbrev lshr (x : Int64) (y : Int32) : Int64 := x >>> (y &&& 0x3f).toInt64
/-- a boolean told by a condition, as an int of the machine's -/
abbrev bz (P : Prop) [Decidable P] : Int32 := if P then 1 else 0
theorem nar_b (P : Prop) [Decidable P] : nar .boolean (bz P) = bz P := by unfold bz; split <;> rfl
theorem bz_t {P : Prop} [Decidable P] (h : P) : bz P = 1 := if_pos h
theorem bz_congr {P Q : Prop} [Decidable P] [Decidable Q] (h : P ↔ Q) : bz P = bz Q := by
  by_cases q : Q
  · rw [bz, bz, if_pos q, if_pos (h.mpr q)]
  · rw [bz, bz, if_neg q, if_neg (fun p => q (h.mp p))]
theorem bz_one {P : Prop} [Decidable P] (h : P ↔ True) : bz P = 1 := if_pos (h.mpr trivial)
theorem bz_zero {P : Prop} [Decidable P] (h : P ↔ False) : bz P = 0 := if_neg h.mp
theorem ow_bne_t {P : Prop} [Decidable P] (h : P) : ifCond.holds .ne (bz P) = true := by rw [if0, bz_t h]; decide
theorem ow_bne_f {P : Prop} [Decidable P] (h : ¬ P) : ifCond.holds .ne (bz P) = false := by rw [if0, bz, if_neg h]; decide
theorem ow_beq_t {P : Prop} [Decidable P] (h : ¬ P) : ifCond.holds .eq (bz P) = true := by rw [if0, bz, if_neg h]; decide
theorem ow_beq_f {P : Prop} [Decidable P] (h : P) : ifCond.holds .eq (bz P) = false := by rw [if0, bz_t h]; decide
theorem bz_f {P : Prop} [Decidable P] (h : ¬ P) : bz P = 0 := if_neg h
theorem ite_or_t {α : Type} {c d : Prop} [Decidable c] [Decidable d] {a y : α} (h : c) : (if c ∨ d then a else y) = a := if_pos (Or.inl h)
theorem ite_or_f {α : Type} {c d : Prop} [Decidable c] [Decidable d] {a y : α} (h : ¬ c) : (if c ∨ d then a else y) = (if d then a else y) := by
  by_cases q : d
  · rw [if_pos q, if_pos (Or.inr q)]
  · rw [if_neg q, if_neg (fun z => z.elim h q)]
theorem ite_and_t {α : Type} {c d : Prop} [Decidable c] [Decidable d] {a y : α} (h : c) : (if c ∧ d then a else y) = (if d then a else y) := by
  by_cases q : d
  · rw [if_pos q, if_pos ⟨h, q⟩]
  · rw [if_neg q, if_neg (fun z => q z.2)]
theorem ite_and_f {α : Type} {c d : Prop} [Decidable c] [Decidable d] {a y : α} (h : ¬ c) : (if c ∧ d then a else y) = y := if_neg fun q => h q.1
theorem xDup2 {tb : Tables} [Ours tb] {e : Env} {below : List Frame} {T target : State} {m : MethodId} {c : Code} {g : JFrame} (h : At T m c below) (hx : tb.exec = Jvm.exec) (hg : g.method = m) {x y : Value} {rest : List Value} (hd : decode c.code g.pc = .ok (.dup2, 1)) (hs : g.stack = x :: y :: rest) (hc : x.category = 1) (hc' : y.category = 1)
    (hr : Steps tb e below (T.setTop { g with pc := g.pc + 1, stack := x :: y :: x :: y :: rest }) target) : Steps tb e below (T.setTop g) target := by
  subst hg
  jvm_step h [h.top, hx, hd, hs, hc, hc']
  exact hr
theorem xDupX2 {tb : Tables} [Ours tb] {e : Env} {below : List Frame} {T target : State} {m : MethodId} {c : Code} {g : JFrame} (h : At T m c below) (hx : tb.exec = Jvm.exec) (hg : g.method = m) {x y z : Value} {rest : List Value} (hd : decode c.code g.pc = .ok (.dup_x2, 1)) (hs : g.stack = x :: y :: z :: rest) (hc : x.category = 1) (hc' : y.category = 1) (hc'' : z.category = 1)
    (hr : Steps tb e below (T.setTop { g with pc := g.pc + 1, stack := x :: y :: z :: x :: rest }) target) : Steps tb e below (T.setTop g) target := by
  subst hg
  jvm_step h [h.top, hx, hd, hs, hc, hc', hc'']
  exact hr
theorem ow_fin {P : Prop} [Decidable P] (h : P) : some (Value.int (nar .boolean (bz P))) = some (Value.int (1 : Int32)) := by rw [bz_t h]; rfl
theorem ow_fin' {P : Prop} [Decidable P] (h : P) : some (Value.int (bz P)) = some (Value.int (1 : Int32)) := by rw [bz_t h]
end Jvm.Own
namespace Jvm.Own
open Jvm Jvm.RoadKit
/-! ## Longs and ints as natural numbers -/
def nj (x : Int64) : Nat := x.toBitVec.toNat
def ni (x : Int32) : Nat := x.toBitVec.toNat
theorem nj_lt (x : Int64) : nj x < 18446744073709551616 := x.toBitVec.isLt
theorem ni_lt (x : Int32) : ni x < 4294967296 := x.toBitVec.isLt
theorem nj_inj {x y : Int64} (h : nj x = nj y) : x = y := Int64.toBitVec_inj.mp (BitVec.eq_of_toNat_eq h)
theorem ni_inj {x y : Int32} (h : ni x = ni y) : x = y := Int32.toBitVec_inj.mp (BitVec.eq_of_toNat_eq h)
theorem nj_int (x : Int64) : x.toInt = if nj x < 9223372036854775808 then (nj x : Int) else (nj x : Int) - 18446744073709551616 := by
  show x.toBitVec.toInt = _
  rw [BitVec.toInt_eq_toNat_cond]
  show (if 2 * nj x < 2 ^ 64 then (nj x : Int) else (nj x : Int) - (2 ^ 64 : Nat)) = _
  split <;> split <;> omega
theorem ni_int (x : Int32) : x.toInt = if ni x < 2147483648 then (ni x : Int) else (ni x : Int) - 4294967296 := by
  show x.toBitVec.toInt = _
  rw [BitVec.toInt_eq_toNat_cond]
  show (if 2 * ni x < 2 ^ 32 then (ni x : Int) else (ni x : Int) - (2 ^ 32 : Nat)) = _
  split <;> split <;> omega
theorem nj_and (x y : Int64) : nj (x &&& y) = nj x &&& nj y := by show (x.toBitVec &&& y.toBitVec).toNat = _; rw [BitVec.toNat_and]; rfl
theorem nj_or (x y : Int64) : nj (x ||| y) = nj x ||| nj y := by show (x.toBitVec ||| y.toBitVec).toNat = _; rw [BitVec.toNat_or]; rfl
theorem nj_xor (x y : Int64) : nj (x ^^^ y) = nj x ^^^ nj y := by show (x.toBitVec ^^^ y.toBitVec).toNat = _; rw [BitVec.toNat_xor]; rfl
theorem nj_add (x y : Int64) : nj (x + y) = (nj x + nj y) % 18446744073709551616 := by show (x.toBitVec + y.toBitVec).toNat = _; rw [BitVec.toNat_add]; rfl
theorem nj_sub (x y : Int64) : nj (x - y) = (18446744073709551616 - nj y + nj x) % 18446744073709551616 := by show (x.toBitVec - y.toBitVec).toNat = _; rw [BitVec.toNat_sub]; rfl
theorem ni_and (x y : Int32) : ni (x &&& y) = ni x &&& ni y := by show (x.toBitVec &&& y.toBitVec).toNat = _; rw [BitVec.toNat_and]; rfl
theorem nj_lushr (x : Int64) (q : Int32) (k : Nat) (hk : ni q % 64 = k) : nj (lushr x q) = nj x / 2 ^ k := by
  show (x.toBitVec >>> ((q &&& 0x3f).toInt64.toBitVec % 64)).toNat = x.toBitVec.toNat / 2 ^ k
  have h5 := (sm64 q k hk).2
  rw [BitVec.ushiftRight_eq', BitVec.toNat_ushiftRight, Nat.shiftRight_eq_div_pow, BitVec.toNat_umod, (sm64 q k hk).1, BitVec.toNat_ofNat]; congr 2; show k % 2 ^ 64 % 64 = k; omega
theorem nj_lshl (x : Int64) (q : Int32) (k : Nat) (hk : ni q % 64 = k) : nj (lshl x q) = nj x * 2 ^ k % 18446744073709551616 := by
  show (x.toBitVec <<< ((q &&& 0x3f).toInt64.toBitVec.smod 64)).toNat = _
  rw [BitVec.shiftLeft_eq', (sm64 q k hk).1, smod64 k (sm64 q k hk).2, BitVec.toNat_shiftLeft, Nat.shiftLeft_eq]; rfl
theorem ni_l2i (x : Int64) : ni x.toInt32 = nj x % 4294967296 := by
  show (x.toBitVec.signExtend 32).toNat = _
  rw [BitVec.signExtend_eq_setWidth_of_le _ (by decide), BitVec.toNat_setWidth]; rfl
theorem nj_i2l (x : Int32) (h : ni x < 2147483648) : nj x.toInt64 = ni x := by
  have e := nj_int x.toInt64
  rw [Int32.toInt_toInt64, ni_int, if_pos h] at e
  have := nj_lt x.toInt64
  split at e <;> omega
theorem mask_n (x k : Nat) : x &&& (2 ^ k - 1) = x % 2 ^ k := Nat.and_two_pow_sub_one_eq_mod x k
theorem lt64 {x y : Int64} : x < y ↔ x.toInt < y.toInt := Int64.lt_iff_toInt_lt
theorem lt32 {x y : Int32} : x < y ↔ x.toInt < y.toInt := Int32.lt_iff_toInt_lt
/-- the byte at place k of a long, as javac reads it into an int -/
theorem byteI (w : Int64) (q : Int32) (k : Nat) (hk : ni q % 64 = k) : ((lushr w q).toInt32 &&& (255 : Int32)) = Int32.ofNat (nj w / 2 ^ k % 256) := by
  apply ni_inj
  rw [ni_and, ni_l2i, nj_lushr w q k hk, show ni (255 : Int32) = 2 ^ 8 - 1 from rfl, mask_n]
  show _ = (BitVec.ofNat 32 _).toNat
  rw [BitVec.toNat_ofNat]
  omega
theorem byteJ (w : Int64) (q : Int32) (k : Nat) (hk : ni q % 64 = k) : ((lushr w q) &&& (255 : Int64)) = Int64.ofNat (nj w / 2 ^ k % 256) := by
  apply nj_inj
  rw [nj_and, nj_lushr w q k hk, show nj (255 : Int64) = 2 ^ 8 - 1 from rfl, mask_n]
  show _ = (BitVec.ofNat 64 _).toNat
  rw [BitVec.toNat_ofNat]
  omega
theorem all8 {P : Int8 → Prop} (h : ∀ n : Fin 256, P (Int8.ofNat n.1)) (y : Int8) : P y := by
  have q := h ⟨y.toBitVec.toNat, y.toBitVec.isLt⟩
  have e : Int8.ofNat y.toBitVec.toNat = y := by
    apply Int8.toBitVec_inj.mp
    show BitVec.ofNat 8 y.toBitVec.toNat = y.toBitVec
    rw [BitVec.ofNat_toNat]; simp
  rw [e] at q; exact q
/-- an int told by its natural number -/
theorem ofni (x : Int32) : Int32.ofNat (ni x) = x := by
  apply ni_inj
  show (BitVec.ofNat 32 x.toBitVec.toNat).toNat = x.toBitVec.toNat
  rw [BitVec.toNat_ofNat, Nat.mod_eq_of_lt x.toBitVec.isLt]
/-- (x & 0x7fffffff) % m for a small m -/
theorem remN (x : Int32) (m : Int32) (k : Nat) (hm : ni m = k) (h0 : 0 < k) (h1 : k < 2147483648) : ∃ n : Nat, n < k ∧ ((x &&& (2147483647 : Int32)) % m) = Int32.ofNat n := by
  have e1 : ni (x &&& (2147483647 : Int32)) = ni x % 2147483648 := by rw [ni_and, show ni (2147483647 : Int32) = 2 ^ 31 - 1 from rfl, mask_n]
  have m1 : m.toInt = k := by rw [ni_int, if_pos (by omega), hm]
  have a1 : (x &&& (2147483647 : Int32)).toInt = (ni x % 2147483648 : Nat) := by rw [ni_int, if_pos (by omega), e1]
  obtain ⟨p, -⟩ := c_irem (x &&& (2147483647 : Int32)) m k m1
  have r := p (by omega)
  refine ⟨ni x % 2147483648 % k, Nat.mod_lt _ h0, ?_⟩
  have q : ni x % 2147483648 % k < k := Nat.mod_lt _ h0
  apply Int32.toInt_inj.mp
  rw [r, a1, Int32.toInt_ofNat_of_lt (by omega)]; rfl
end Jvm.Own
namespace Jvm.Own
open Jvm Jvm.ClassFile Jvm.RoadKit
/-! ## Arrays of small natural numbers -/
def nv (x : Nat) : Value := .int (Int32.ofNat x)
def nl (xs : List Nat) : List Value := xs.map nv
theorem nl_len (xs : List Nat) : (nl xs).length = xs.length := by simp [nl]
theorem n_int {i : Nat} (h : i < 1000) : (Int32.ofNat i).toInt = i := Int32.toInt_ofNat_of_lt (by omega)
theorem n_nn {i : Nat} (h : i < 1000) : ¬ Int32.ofNat i < 0 := by rw [Int32.lt_iff_toInt_lt, n_int h, show (0 : Int32).toInt = 0 from rfl]; omega
theorem n_ix {i : Nat} (h : i < 1000) : (Int32.ofNat i).toNatClampNeg = i := by rw [Int32.toNatClampNeg, n_int h]; rfl
theorem nl_get {xs : List Nat} {i : Nat} (h : i < xs.length) : (nl xs)[i]? = some (.int (Int32.ofNat (xs.getD i 0))) := by
  simp [nl, nv, List.getD_eq_getElem?_getD, h]
theorem nl_at {xs : List Nat} {i : Nat} (h : i < xs.length) (b : i < 1000) : (nl xs)[(Int32.ofNat i).toNatClampNeg]? = some (.int (Int32.ofNat (xs.getD i 0))) := by rw [n_ix b]; exact nl_get h
theorem nl_lt {xs : List Nat} {i : Nat} (h : i < xs.length) : i < (nl xs).length := by rw [nl_len]; exact h
theorem nl_set (xs : List Nat) (i v : Nat) : (nl xs).set i (.int (Int32.ofNat v)) = nl (xs.set i v) := by simp [nl, nv, List.map_set]
theorem n_one (i : Nat) : Int32.ofNat i + (1 : Int32) = Int32.ofNat (i + 1) := (Int32.ofNat_add i 1).symm
theorem n_add (a b : Nat) : Int32.ofNat a + Int32.ofNat b = Int32.ofNat (a + b) := (Int32.ofNat_add a b).symm
theorem n_pred {i : Nat} (h : 1 ≤ i) : Int32.ofNat i - (1 : Int32) = Int32.ofNat (i - 1) := by
  obtain ⟨j, rfl⟩ : ∃ j, i = j + 1 := ⟨i - 1, by omega⟩
  rw [← n_one, show j + 1 - 1 = j from rfl]
  apply Int32.toBitVec_inj.mp
  show (Int32.ofNat j).toBitVec + 1#32 - 1#32 = _
  exact BitVec.add_sub_cancel _ _
theorem n_lt {i n : Nat} (h : i < n) (b : n < 1000) : Int32.ofNat i < Int32.ofNat n := by rw [Int32.lt_iff_toInt_lt, n_int b, n_int (by omega)]; omega
theorem n_nlt {i n : Nat} (h : n ≤ i) (b : i < 1000) : ¬ Int32.ofNat i < Int32.ofNat n := by rw [Int32.lt_iff_toInt_lt, n_int b, n_int (by omega)]; omega
theorem n_inj {i n : Nat} (h : Int32.ofNat i = Int32.ofNat n) (b : i < 1000) (b' : n < 1000) : i = n := by
  have := congrArg Int32.toInt h
  rw [n_int b, n_int b'] at this; omega
theorem n_rep (k : Nat) : List.replicate k (Value.int (0 : Int32)) = nl (List.replicate k 0) := by simp [nl, nv]
def One1 (s : Slot) : Prop := s = .unset ∨ ∃ w, s = .val w ∧ w.category = 1
theorem One1.v {w : Value} (h : w.category = 1) : One1 (.val w) := Or.inr ⟨w, rfl, h⟩
theorem One1.u : One1 .unset := Or.inl rfl
end Jvm.Own
namespace Jvm.Pilot.@@N@@
open Jvm Jvm.ClassFile Sem Op Lib Jvm.Free Jvm.Stand Jvm.LawKit Jvm.RoadKit Bundle Jvm.Own Jvm.Pilot.@@N@@.Jvm.D
theorem d3_0 : decode jdk_29_method_65_code 0 = .ok (.iload_n 0, 1) := by decide +kernel
theorem d3_1 : decode jdk_29_method_65_code 1 = .ok (.iload_n 1, 1) := by decide +kernel
theorem d3_2 : decode jdk_29_method_65_code 2 = .ok (.if_icmp .lt 7, 3) := by decide +kernel
theorem d3_9 : decode jdk_29_method_65_code 9 = .ok (.iload_n 1, 1) := by decide +kernel
theorem d3_5 : decode jdk_29_method_65_code 5 = .ok (.iload_n 0, 1) := by decide +kernel
theorem d3_6 : decode jdk_29_method_65_code 6 = .ok (.goto 4, 3) := by decide +kernel
theorem d3_10 : decode jdk_29_method_65_code 10 = .ok (.ireturn, 1) := by decide +kernel
theorem ef_3 (m : MethodId) (x0 : Int32) (x1 : Int32) : entryFrame m #[(.int x0), (.int x1)] 2 = mkF m 0 #[.val (.int x0), .val (.int x1)] [] := by first | (simp [entryFrame, mkF, argsToLocals, Value.category]; done) | rfl
def F3 (ux : Int32) (wx : Int32) : Int32 :=
  (if ux < wx then wx else ux)
def Q3 (Z : State) (ux : Int32) (wx : Int32) (n0 : Nat) (Rst : RL) (v : Option Value) (h : Heap) (L : List Loc) : Prop := v = some (.int (F3 ux wx)) ∧ Fr n0 L ∧ Rep Z n0 h (Rst)
set_option maxRecDepth 65536 in
set_option maxHeartbeats 40000000 in
theorem rm3 (l : Launch) (Z : State) (a0 : Array Value) (hw : ∀ d ∈ tables_1, d.before a0 Z = true) (ws : List Jvm.Cond) (ux : Int32) (wx : Int32) (h0 : Heap) (n0 : Nat) (Rst : RL) (R0 : Rep Z n0 h0 (Rst)) :
    MetFree l (⟨"java/lang/Math", "max", "(II)I"⟩ : MethodName) (head1 (Jvm.Cond.code (⟨"java/lang/Math", "max", "(II)I"⟩ : MethodName) jdk_29_method_65_code 2 (some .int) :: ws) ({ frames := 0, cells := 0, slots := 0, locals := 0 } : Room)) (fun a U => a = #[(.int ux), (.int wx)] ∧ Z.Warmed39 U.vm ∧ U.heap = h0) (fun _ _ _ _ _ => True) (fun _ U o U' => ∃ v L, o = .returned v ∧ Q3 Z ux wx n0 Rst v U'.heap L ∧ FrameEnd U o U' L ({ frames := 0, cells := 0, slots := 0, locals := 0 } : Room).cells ({ frames := 0, cells := 0, slots := 0, locals := 0 } : Room).slots) := by
  refine MetFree.of_bodySF (Jvm.Free.JP.mathPlain rfl (by decide +kernel)) hisR ?_
  intro p e s m args below meth c s₁ Bd hml0 hP hK
  obtain ⟨rfl, hZ, hh⟩ := hP
  have hx := Bd.exec
  have hby := Bd.bytes
  have hml : c.maxLocals = 2 := hml0
  have hown : s.vm.findClass "java/lang/Math" = some m.cls := findClass_of_methodNamed Bd.named
  have hnm := (name_of_methodNamed Bd.named Bd.method).1
  have X0 : Stand p l e ({ frames := 0, cells := 0, slots := 0, locals := 0 } : Room) s m #[(.int ux), (.int wx)] below meth c s₁ [] 0 0 := Stand.of_body Bd
  have e0 : s₁.heap = h0 := by rw [← hh, Bd.state]; rfl
  have N0 := Fr.nil n0
  have pre0 : ∀ t, Steps p.tables e below (s₁.setTop (mkF m 0 #[.val (.int ux), .val (.int wx)] [])) t → Steps p.tables e below (s₁.setTop (entryFrame m #[(.int ux), (.int wx)] 2)) t := fun t k => castTop (ef_3 m ux wx) k
  have pre3 : ∀ t, Steps p.tables e below (s₁.setTop (mkF m 2 #[.val (.int ux), .val (.int wx)] [(.int wx), (.int ux)])) t → Steps p.tables e below (s₁.setTop (entryFrame m #[(.int ux), (.int wx)] 2)) t := fun t k => pre0 t (by
    show Steps p.tables e below (s₁.setTop (mkF m 0 #[.val (.int ux), .val (.int wx)] [])) _
    refine XS.iloadN X0.here hx rfl (hb hby d3_0) rfl ?_
    refine XS.iloadN X0.here hx rfl (hb hby d3_1) rfl ?_
    exact k)
  have tl2 : ∀ t, Steps p.tables e below (s₁.setTop (mkF m 10 #[.val (.int ux), .val (.int wx)] [(.int (if ux < wx then wx else ux))])) t → Steps p.tables e below (s₁.setTop (mkF m 2 #[.val (.int ux), .val (.int wx)] [(.int wx), (.int ux)])) t := fun t k => by
    by_cases hb1 : ux < wx
    · refine XS.icmpYes X0.here hx rfl (pc0 := 2) (pc' := 9) rfl (hb hby d3_2) rfl (tlt hb1).1 (by decide) (by decide) ?_
      rw [show (if ux < wx then wx else ux) = wx from if_pos hb1] at k
      show Steps p.tables e below (s₁.setTop (mkF m 9 #[.val (.int ux), .val (.int wx)] [])) _
      refine XS.iloadN X0.here hx rfl (hb hby d3_9) rfl ?_
      exact k
    · refine XS.icmpNo X0.here hx rfl (hb hby d3_2) rfl (flt hb1).1 ?_
      rw [show (if ux < wx then wx else ux) = ux from if_neg hb1] at k
      show Steps p.tables e below (s₁.setTop (mkF m 5 #[.val (.int ux), .val (.int wx)] [])) _
      refine XS.iloadN X0.here hx rfl (hb hby d3_5) rfl ?_
      refine XS.goto X0.here hx rfl (pc0 := 6) (pc' := 10) rfl (hb hby d3_6) (by decide) (by decide) ?_
      exact k
  have pre4 : ∀ t, Steps p.tables e below (s₁.setTop (mkF m 10 #[.val (.int ux), .val (.int wx)] [(.int (if ux < wx then wx else ux))])) t → Steps p.tables e below (s₁.setTop (entryFrame m #[(.int ux), (.int wx)] 2)) t := fun t k => pre3 t (by
    exact tl2 t k)
  obtain ⟨fs, hr, hrun, hended, hW, hsame⟩ := X0.leave (v := some (.int (if ux < wx then wx else ux))) (fun h => by rw [Bd.returns] at h; cases h)
  refine ⟨_, _, pre4 _ ?_, hrun, hended, _, _, rfl, ?_, ⟨_, rfl⟩, hW, hsame.mono (by decide) (by decide)⟩
  · show Steps p.tables e below (s₁.setTop (mkF m 10 #[.val (.int ux), .val (.int wx)] [(.int (if ux < wx then wx else ux))])) _
    exact Jvm.Own.retI X0 hx Bd.returns (hb hby d3_10) hr
  · show Q3 Z ux wx n0 Rst _ s₁.heap _
    rw [e0]
    exact ⟨(by rfl), N0, R0⟩
theorem d5_0 : decode jdk_29_method_69_code 0 = .ok (.iload_n 0, 1) := by decide +kernel
theorem d5_1 : decode jdk_29_method_69_code 1 = .ok (.iload_n 1, 1) := by decide +kernel
theorem d5_2 : decode jdk_29_method_69_code 2 = .ok (.if_icmp .gt 7, 3) := by decide +kernel
theorem d5_9 : decode jdk_29_method_69_code 9 = .ok (.iload_n 1, 1) := by decide +kernel
theorem d5_5 : decode jdk_29_method_69_code 5 = .ok (.iload_n 0, 1) := by decide +kernel
theorem d5_6 : decode jdk_29_method_69_code 6 = .ok (.goto 4, 3) := by decide +kernel
theorem d5_10 : decode jdk_29_method_69_code 10 = .ok (.ireturn, 1) := by decide +kernel
theorem ef_5 (m : MethodId) (x0 : Int32) (x1 : Int32) : entryFrame m #[(.int x0), (.int x1)] 2 = mkF m 0 #[.val (.int x0), .val (.int x1)] [] := by first | (simp [entryFrame, mkF, argsToLocals, Value.category]; done) | rfl
def F5 (ux : Int32) (wx : Int32) : Int32 :=
  (if wx < ux then wx else ux)
def Q5 (Z : State) (ux : Int32) (wx : Int32) (n0 : Nat) (Rst : RL) (v : Option Value) (h : Heap) (L : List Loc) : Prop := v = some (.int (F5 ux wx)) ∧ Fr n0 L ∧ Rep Z n0 h (Rst)
set_option maxRecDepth 65536 in
set_option maxHeartbeats 40000000 in
theorem rm5 (l : Launch) (Z : State) (a0 : Array Value) (hw : ∀ d ∈ tables_1, d.before a0 Z = true) (ws : List Jvm.Cond) (ux : Int32) (wx : Int32) (h0 : Heap) (n0 : Nat) (Rst : RL) (R0 : Rep Z n0 h0 (Rst)) :
    MetFree l (⟨"java/lang/Math", "min", "(II)I"⟩ : MethodName) (head1 (Jvm.Cond.code (⟨"java/lang/Math", "min", "(II)I"⟩ : MethodName) jdk_29_method_69_code 2 (some .int) :: ws) ({ frames := 0, cells := 0, slots := 0, locals := 0 } : Room)) (fun a U => a = #[(.int ux), (.int wx)] ∧ Z.Warmed39 U.vm ∧ U.heap = h0) (fun _ _ _ _ _ => True) (fun _ U o U' => ∃ v L, o = .returned v ∧ Q5 Z ux wx n0 Rst v U'.heap L ∧ FrameEnd U o U' L ({ frames := 0, cells := 0, slots := 0, locals := 0 } : Room).cells ({ frames := 0, cells := 0, slots := 0, locals := 0 } : Room).slots) := by
  refine MetFree.of_bodySF (Jvm.Free.JP.mathPlain rfl (by decide +kernel)) hisR ?_
  intro p e s m args below meth c s₁ Bd hml0 hP hK
  obtain ⟨rfl, hZ, hh⟩ := hP
  have hx := Bd.exec
  have hby := Bd.bytes
  have hml : c.maxLocals = 2 := hml0
  have hown : s.vm.findClass "java/lang/Math" = some m.cls := findClass_of_methodNamed Bd.named
  have hnm := (name_of_methodNamed Bd.named Bd.method).1
  have X0 : Stand p l e ({ frames := 0, cells := 0, slots := 0, locals := 0 } : Room) s m #[(.int ux), (.int wx)] below meth c s₁ [] 0 0 := Stand.of_body Bd
  have e0 : s₁.heap = h0 := by rw [← hh, Bd.state]; rfl
  have N0 := Fr.nil n0
  have pre0 : ∀ t, Steps p.tables e below (s₁.setTop (mkF m 0 #[.val (.int ux), .val (.int wx)] [])) t → Steps p.tables e below (s₁.setTop (entryFrame m #[(.int ux), (.int wx)] 2)) t := fun t k => castTop (ef_5 m ux wx) k
  have pre3 : ∀ t, Steps p.tables e below (s₁.setTop (mkF m 2 #[.val (.int ux), .val (.int wx)] [(.int wx), (.int ux)])) t → Steps p.tables e below (s₁.setTop (entryFrame m #[(.int ux), (.int wx)] 2)) t := fun t k => pre0 t (by
    show Steps p.tables e below (s₁.setTop (mkF m 0 #[.val (.int ux), .val (.int wx)] [])) _
    refine XS.iloadN X0.here hx rfl (hb hby d5_0) rfl ?_
    refine XS.iloadN X0.here hx rfl (hb hby d5_1) rfl ?_
    exact k)
  have tl2 : ∀ t, Steps p.tables e below (s₁.setTop (mkF m 10 #[.val (.int ux), .val (.int wx)] [(.int (if wx < ux then wx else ux))])) t → Steps p.tables e below (s₁.setTop (mkF m 2 #[.val (.int ux), .val (.int wx)] [(.int wx), (.int ux)])) t := fun t k => by
    by_cases hb1 : wx < ux
    · refine XS.icmpYes X0.here hx rfl (pc0 := 2) (pc' := 9) rfl (hb hby d5_2) rfl (tlt hb1).2.2.1 (by decide) (by decide) ?_
      rw [show (if wx < ux then wx else ux) = wx from if_pos hb1] at k
      show Steps p.tables e below (s₁.setTop (mkF m 9 #[.val (.int ux), .val (.int wx)] [])) _
      refine XS.iloadN X0.here hx rfl (hb hby d5_9) rfl ?_
      exact k
    · refine XS.icmpNo X0.here hx rfl (hb hby d5_2) rfl (flt hb1).2.2.1 ?_
      rw [show (if wx < ux then wx else ux) = ux from if_neg hb1] at k
      show Steps p.tables e below (s₁.setTop (mkF m 5 #[.val (.int ux), .val (.int wx)] [])) _
      refine XS.iloadN X0.here hx rfl (hb hby d5_5) rfl ?_
      refine XS.goto X0.here hx rfl (pc0 := 6) (pc' := 10) rfl (hb hby d5_6) (by decide) (by decide) ?_
      exact k
  have pre4 : ∀ t, Steps p.tables e below (s₁.setTop (mkF m 10 #[.val (.int ux), .val (.int wx)] [(.int (if wx < ux then wx else ux))])) t → Steps p.tables e below (s₁.setTop (entryFrame m #[(.int ux), (.int wx)] 2)) t := fun t k => pre3 t (by
    exact tl2 t k)
  obtain ⟨fs, hr, hrun, hended, hW, hsame⟩ := X0.leave (v := some (.int (if wx < ux then wx else ux))) (fun h => by rw [Bd.returns] at h; cases h)
  refine ⟨_, _, pre4 _ ?_, hrun, hended, _, _, rfl, ?_, ⟨_, rfl⟩, hW, hsame.mono (by decide) (by decide)⟩
  · show Steps p.tables e below (s₁.setTop (mkF m 10 #[.val (.int ux), .val (.int wx)] [(.int (if wx < ux then wx else ux))])) _
    exact Jvm.Own.retI X0 hx Bd.returns (hb hby d5_10) hr
  · show Q5 Z ux wx n0 Rst _ s₁.heap _
    rw [e0]
    exact ⟨(by rfl), N0, R0⟩
theorem own_max {a b : Nat} (ha : a < 1000) (hb : b < 1000) : F3 (Int32.ofNat a) (Int32.ofNat b) = Int32.ofNat (max a b) := by
  unfold F3
  by_cases q : a < b
  · rw [if_pos (n_lt q hb), Nat.max_eq_right (Nat.le_of_lt q)]
  · rw [if_neg (n_nlt (by omega) ha), Nat.max_eq_left (by omega)]
theorem own_min {a b : Nat} (ha : a < 1000) (hb : b < 1000) (h : b ≤ a) : F5 (Int32.ofNat a) (Int32.ofNat b) = Int32.ofNat b := by
  unfold F5
  by_cases q : b < a
  · rw [if_pos (n_lt q ha)]
  · rw [if_neg (n_nlt (by omega) hb), show a = b by omega]
theorem own_copy {xs : List Nat} {n : Nat} (h : n ≤ xs.length) : (nl (List.replicate n 0)).take 0 ++ ((nl xs).drop 0).take n ++ (nl (List.replicate n 0)).drop (0 + n) = nl (xs.take n) := by
  simp [nl, List.map_take]
theorem d4_0 : decode jdk_65_method_123_code 0 = .ok (.iload_n 1, 1) := by decide +kernel
theorem d4_1 : decode jdk_65_method_123_code 1 = .ok (.aload_n 0, 1) := by decide +kernel
theorem d4_2 : decode jdk_65_method_123_code 2 = .ok (.arraylength, 1) := by decide +kernel
theorem d4_3 : decode jdk_65_method_123_code 3 = .ok (.if_icmp .ne 11, 3) := by decide +kernel
theorem d4_6 : decode jdk_65_method_123_code 6 = .ok (.aload_n 0, 1) := by decide +kernel
theorem d4_7 : decode jdk_65_method_123_code 7 = .ok (.invokevirtual 316, 3) := by decide +kernel
theorem d4_10 : decode jdk_65_method_123_code 10 = .ok (.checkcast 317, 3) := by decide +kernel
theorem d4_13 : decode jdk_65_method_123_code 13 = .ok (.areturn, 1) := by decide +kernel
theorem d4_14 : decode jdk_65_method_123_code 14 = .ok (.iload_n 1, 1) := by decide +kernel
theorem d4_15 : decode jdk_65_method_123_code 15 = .ok (.newarray .int, 2) := by decide +kernel
theorem d4_17 : decode jdk_65_method_123_code 17 = .ok (.astore_n 2, 1) := by decide +kernel
theorem d4_18 : decode jdk_65_method_123_code 18 = .ok (.aload_n 0, 1) := by decide +kernel
theorem d4_19 : decode jdk_65_method_123_code 19 = .ok (.iconst 0, 1) := by decide +kernel
theorem d4_20 : decode jdk_65_method_123_code 20 = .ok (.aload_n 2, 1) := by decide +kernel
theorem d4_21 : decode jdk_65_method_123_code 21 = .ok (.iconst 0, 1) := by decide +kernel
theorem d4_22 : decode jdk_65_method_123_code 22 = .ok (.aload_n 0, 1) := by decide +kernel
theorem d4_23 : decode jdk_65_method_123_code 23 = .ok (.arraylength, 1) := by decide +kernel
theorem d4_24 : decode jdk_65_method_123_code 24 = .ok (.iload_n 1, 1) := by decide +kernel
theorem d4_25 : decode jdk_65_method_123_code 25 = .ok (.invokestatic 304, 3) := by decide +kernel
theorem pd__28II_29I : parseMethodDescriptor "(II)I" = some ⟨[.int, .int], some .int⟩ := by decide +kernel
theorem d4_28 : decode jdk_65_method_123_code 28 = .ok (.invokestatic 150, 3) := by decide +kernel
theorem d4_31 : decode jdk_65_method_123_code 31 = .ok (.aload_n 2, 1) := by decide +kernel
theorem d4_32 : decode jdk_65_method_123_code 32 = .ok (.areturn, 1) := by decide +kernel
theorem pn_java_util_Arrays : plainName "java/util/Arrays" = true := by first | (simp [plainName, overriddenIn]; done) | decide +kernel
theorem ef_4 (m : MethodId) (x0 : Addr) (x1 : Nat) : entryFrame m #[(.ref x0), (.int (Int32.ofNat x1))] 3 = mkF m 0 #[.val (.ref x0), .val (.int (Int32.ofNat x1)), .unset] [] := by first | (simp [entryFrame, mkF, argsToLocals, Value.category]; done) | rfl
def Q4 (Z : State) (ax : Addr) (nx : Nat) (xs : List Nat) (n0 : Nat) (Rst : RL) (v : Option Value) (h : Heap) (L : List Loc) : Prop := ∃ bx : Addr, v = some (.ref bx) ∧ Fr n0 L ∧ Rep Z n0 h ((bx, Ar .int (nl (xs.take nx))) :: (ax, Ar .int (nl xs)) :: Rst)
set_option maxRecDepth 65536 in
set_option maxHeartbeats 40000000 in
theorem rm4 (l : Launch) (Z : State) (a0 : Array Value) (hw : ∀ d ∈ tables_1, d.before a0 Z = true) (ws : List Jvm.Cond) (ax : Addr) (nx : Nat) (xs : List Nat) (h0 : Heap) (n0 : Nat) (Rst : RL) (R0 : Rep Z n0 h0 ((ax, Ar .int (nl xs)) :: Rst)) (hle : nx ≤ xs.length) (hlx : xs.length ≤ 8) :
    MetFree l (⟨"java/util/Arrays", "copyOf", "([II)[I"⟩ : MethodName) (head1 (Jvm.Cond.code (⟨"java/util/Arrays", "copyOf", "([II)[I"⟩ : MethodName) jdk_65_method_123_code 3 (some (.array .int)) :: ws) ({ frames := 1, cells := 1, slots := 8, locals := 18 } : Room)) (fun a U => a = #[(.ref ax), (.int (Int32.ofNat nx))] ∧ Z.Warmed39 U.vm ∧ U.heap = h0) (fun _ _ _ _ _ => True) (fun _ U o U' => ∃ v L, o = .returned v ∧ Q4 Z ax nx xs n0 Rst v U'.heap L ∧ FrameEnd U o U' L ({ frames := 1, cells := 1, slots := 8, locals := 18 } : Room).cells ({ frames := 1, cells := 1, slots := 8, locals := 18 } : Room).slots) := by
  refine MetFree.of_bodySF (plainFor_of_name pn_java_util_Arrays) hisR ?_
  intro p e s m args below meth c s₁ Bd hml0 hP hK
  obtain ⟨rfl, hZ, hh⟩ := hP
  have hx := Bd.exec
  have hby := Bd.bytes
  have hml : c.maxLocals = 3 := hml0
  have hown : s.vm.findClass "java/util/Arrays" = some m.cls := findClass_of_methodNamed Bd.named
  have hnm := (name_of_methodNamed Bd.named Bd.method).1
  have X0 : Stand p l e ({ frames := 1, cells := 1, slots := 8, locals := 18 } : Room) s m #[(.ref ax), (.int (Int32.ofNat nx))] below meth c s₁ [] 0 0 := Stand.of_body Bd
  have e0 : s₁.heap = h0 := by rw [← hh, Bd.state]; rfl
  have N0 := Fr.nil n0
  have pre0 : ∀ t, Steps p.tables e below (s₁.setTop (mkF m 0 #[.val (.ref ax), .val (.int (Int32.ofNat nx)), .unset] [])) t → Steps p.tables e below (s₁.setTop (entryFrame m #[(.ref ax), (.int (Int32.ofNat nx))] 3)) t := fun t k => castTop (ef_4 m ax nx) k
  have pre1 : ∀ t, Steps p.tables e below (s₁.setTop (mkF m 3 #[.val (.ref ax), .val (.int (Int32.ofNat nx)), .unset] [(.int (Int32.ofNat xs.length)), (.int (Int32.ofNat nx))])) t → Steps p.tables e below (s₁.setTop (entryFrame m #[(.ref ax), (.int (Int32.ofNat nx))] 3)) t := fun t k => pre0 t (by
    show Steps p.tables e below (s₁.setTop (mkF m 0 #[.val (.ref ax), .val (.int (Int32.ofNat nx)), .unset] [])) _
    refine XS.iloadN X0.here hx rfl (hb hby d4_0) rfl ?_
    refine XS.aloadN X0.here hx rfl (hb hby d4_1) rfl rfl ?_
    refine gLen X0 hx hZ e0 R0 0 rfl (g := (mkF m 2 #[.val (.ref ax), .val (.int (Int32.ofNat nx)), .unset] [(.ref ax), (.int (Int32.ofNat nx))])) rfl rfl (hb hby d4_2) (z := (Int32.ofNat xs.length)) (by rw [nl_len]) _ ?_
    exact k)
  by_cases hb2 : (Int32.ofNat nx) = (Int32.ofNat xs.length)
  · have pre3 : ∀ t, Steps p.tables e below (s₁.setTop (mkF m 6 #[.val (.ref ax), .val (.int (Int32.ofNat nx)), .unset] [])) t → Steps p.tables e below (s₁.setTop (entryFrame m #[(.ref ax), (.int (Int32.ofNat nx))] 3)) t := fun t k => pre1 t (by show Steps p.tables e below (s₁.setTop (mkF m 3 #[.val (.ref ax), .val (.int (Int32.ofNat nx)), .unset] [(.int (Int32.ofNat xs.length)), (.int (Int32.ofNat nx))])) _; refine XS.icmpNo X0.here hx rfl (hb hby d4_3) rfl (teq hb2).2 ?_; exact k)
    have pre4 : ∀ t, Steps p.tables e below (s₁.setTop (mkF m 7 #[.val (.ref ax), .val (.int (Int32.ofNat nx)), .unset] [(.ref ax)])) t → Steps p.tables e below (s₁.setTop (entryFrame m #[(.ref ax), (.int (Int32.ofNat nx))] 3)) t := fun t k => pre3 t (by
      show Steps p.tables e below (s₁.setTop (mkF m 6 #[.val (.ref ax), .val (.int (Int32.ofNat nx)), .unset] [])) _
      refine XS.aloadN X0.here hx rfl (hb hby d4_6) rfl rfl ?_
      exact k)
    obtain ⟨T5, h5, b5, X5, e5, R5, E5, st5⟩ := gClone X0 hx hZ hown (hw _ (List.mem_of_getElem? (i := 67) rfl)) (hw _ (List.mem_of_getElem? (i := 20) rfl)) (hw _ (List.mem_of_getElem? (i := 24) rfl)) (hw _ (List.mem_of_getElem? (i := 22) rfl)) (hw _ (List.mem_of_getElem? (i := 23) rfl)) (hw _ (List.mem_of_getElem? (i := 25) rfl)) e0 R0 0 rfl (show _ = "[I" from rfl) (g := (mkF m 7 #[.val (.ref ax), .val (.int (Int32.ofNat nx)), .unset] [(.ref ax)])) rfl (by rw [hml]; rfl) rfl (hb hby d4_7) (by decide) (W := 0) 8 (by show 2 * 0 + _ ≤ _; exact Nat.le_of_eq rfl) (by decide) (by rw [nl_len]; exact hlx) (by decide) (by decide)
    have pre6 : ∀ t, Steps p.tables e below (T5.setTop (mkF m 10 #[.val (.ref ax), .val (.int (Int32.ofNat nx)), .unset] [(.ref b5)])) t → Steps p.tables e below (s₁.setTop (entryFrame m #[(.ref ax), (.int (Int32.ofNat nx))] 3)) t := fun t k => pre4 t (st5 t k)
    obtain ⟨T7, X7, e7, st7⟩ := gCast X5 hx hZ hown (hw _ (List.mem_of_getElem? (i := 68) rfl)) e5 E5 (g := (mkF m 10 #[.val (.ref ax), .val (.int (Int32.ofNat nx)), .unset] [(.ref b5)])) rfl rfl (hb hby d4_10)
    have pre8 : ∀ t, Steps p.tables e below (T7.setTop (mkF m 13 #[.val (.ref ax), .val (.int (Int32.ofNat nx)), .unset] [(.ref b5)])) t → Steps p.tables e below (s₁.setTop (entryFrame m #[(.ref ax), (.int (Int32.ofNat nx))] 3)) t := fun t k => pre6 t (st7 t k)
    obtain ⟨fs, hr, hrun, hended, hW, hsame⟩ := X7.leave (v := some (.ref b5)) (fun h => by rw [Bd.returns] at h; cases h)
    refine ⟨_, _, pre8 _ ?_, hrun, hended, _, _, rfl, ?_, ⟨_, rfl⟩, hW, hsame.mono (by decide) (by decide)⟩
    · show Steps p.tables e below (T7.setTop (mkF m 13 #[.val (.ref ax), .val (.int (Int32.ofNat nx)), .unset] [(.ref b5)])) _
      exact Jvm.Own.retA X7 hx (t := (.array .int)) rfl Bd.returns (hb hby d4_13) hr
    · show Q4 Z ax nx xs n0 Rst _ T7.heap _
      rw [e7]
      exact ⟨b5, rfl, N0, (by have q : nx = xs.length := n_inj hb2 (by omega) (by omega); rw [List.take_of_length_le (by omega)]; exact R5)⟩
  · have pre9 : ∀ t, Steps p.tables e below (s₁.setTop (mkF m 14 #[.val (.ref ax), .val (.int (Int32.ofNat nx)), .unset] [])) t → Steps p.tables e below (s₁.setTop (entryFrame m #[(.ref ax), (.int (Int32.ofNat nx))] 3)) t := fun t k => pre1 t (by show Steps p.tables e below (s₁.setTop (mkF m 3 #[.val (.ref ax), .val (.int (Int32.ofNat nx)), .unset] [(.int (Int32.ofNat xs.length)), (.int (Int32.ofNat nx))])) _; refine XS.icmpYes X0.here hx rfl (pc0 := 3) (pc' := 14) rfl (hb hby d4_3) rfl (feq hb2).2 (by decide) (by decide) ?_; exact k)
    have pre10 : ∀ t, Steps p.tables e below (s₁.setTop (mkF m 15 #[.val (.ref ax), .val (.int (Int32.ofNat nx)), .unset] [(.int (Int32.ofNat nx))])) t → Steps p.tables e below (s₁.setTop (entryFrame m #[(.ref ax), (.int (Int32.ofNat nx))] 3)) t := fun t k => pre9 t (by
      show Steps p.tables e below (s₁.setTop (mkF m 14 #[.val (.ref ax), .val (.int (Int32.ofNat nx)), .unset] [])) _
      refine XS.iloadN X0.here hx rfl (hb hby d4_14) rfl ?_
      exact k)
    obtain ⟨T11, h11, b11, X11, e11, R11, st11⟩ := gNewP X0 hx hZ (hw _ (List.mem_of_getElem? (i := 0) rfl)) e0 R0 (g := (mkF m 15 #[.val (.ref ax), .val (.int (Int32.ofNat nx)), .unset] [(.int (Int32.ofNat nx))])) rfl (hb hby d4_15) rfl (n_nn (by omega)) 8 (by rw [n_ix (by omega)]; omega) (by decide) (by decide) (by decide) (vs := (nl (List.replicate nx 0))) (by rw [n_ix (by omega)]; exact n_rep _)
    replace R11 : Rep Z n0 h11 ((b11, Ar .int (nl (List.replicate nx 0))) :: (ax, Ar .int (nl xs)) :: Rst) := R11
    have pre12 : ∀ t, Steps p.tables e below (T11.setTop (mkF m 17 #[.val (.ref ax), .val (.int (Int32.ofNat nx)), .unset] [(.ref b11)])) t → Steps p.tables e below (s₁.setTop (entryFrame m #[(.ref ax), (.int (Int32.ofNat nx))] 3)) t := fun t k => pre10 t (st11 t k)
    have pre13 : ∀ t, Steps p.tables e below (T11.setTop (mkF m 25 #[.val (.ref ax), .val (.int (Int32.ofNat nx)), .val (.ref b11)] [(.int (Int32.ofNat nx)), (.int (Int32.ofNat xs.length)), (.int (0 : Int32)), (.ref b11), (.int (0 : Int32)), (.ref ax)])) t → Steps p.tables e below (s₁.setTop (entryFrame m #[(.ref ax), (.int (Int32.ofNat nx))] 3)) t := fun t k => pre12 t (by
      show Steps p.tables e below (T11.setTop (mkF m 17 #[.val (.ref ax), .val (.int (Int32.ofNat nx)), .unset] [(.ref b11)])) _
      refine XS.astoreN X11.here hx rfl (hb hby d4_17) rfl rfl (l' := #[.val (.ref ax), .val (.int (Int32.ofNat nx)), .val (.ref b11)]) rfl ?_
      refine XS.aloadN X11.here hx rfl (hb hby d4_18) rfl rfl ?_
      refine XS.iconst X11.here hx rfl (hb hby d4_19) ?_
      refine XS.aloadN X11.here hx rfl (hb hby d4_20) rfl rfl ?_
      refine XS.iconst X11.here hx rfl (hb hby d4_21) ?_
      refine XS.aloadN X11.here hx rfl (hb hby d4_22) rfl rfl ?_
      refine gLen X11 hx hZ e11 R11 1 rfl (g := (mkF m 23 #[.val (.ref ax), .val (.int (Int32.ofNat nx)), .val (.ref b11)] [(.ref ax), (.int (0 : Int32)), (.ref b11), (.int (0 : Int32)), (.ref ax)])) rfl rfl (hb hby d4_23) (z := (Int32.ofNat xs.length)) (by rw [nl_len]) _ ?_
      show Steps p.tables e below (T11.setTop (mkF m 24 #[.val (.ref ax), .val (.int (Int32.ofNat nx)), .val (.ref b11)] [(.int (Int32.ofNat xs.length)), (.int (0 : Int32)), (.ref b11), (.int (0 : Int32)), (.ref ax)])) _
      refine XS.iloadN X11.here hx rfl (hb hby d4_24) rfl ?_
      exact k)
    obtain ⟨_, _, ⟨T14, L14, k14, n14⟩, -, X14, ⟨Lc14, hQ14, l14, y14, z14⟩, st14⟩ := Jvm.LawKit.callS X11 hx (y := (⟨"java/lang/Math", "min", "(II)I"⟩ : MethodName)) hown (mvT hZ (hw _ (List.mem_of_getElem? (i := 44) rfl))) (mvT hZ (hw _ (List.mem_of_getElem? (i := 45) rfl))) (mvT hZ (hw _ (List.mem_of_getElem? (i := 13) rfl))) (mvT hZ (hw _ (List.mem_of_getElem? (i := 46) rfl))) (by decide) (backOf (W := 4) (rm5 l Z a0 hw [] (Int32.ofNat xs.length) (Int32.ofNat nx)  h11 n0 _ R11 ) hZ (hw _ (List.mem_of_getElem? (i := 46) rfl)) (hw _ (List.mem_of_getElem? (i := 13) rfl)) (by decide) (by decide)) (g := (mkF m 25 #[.val (.ref ax), .val (.int (Int32.ofNat nx)), .val (.ref b11)] [(.int (Int32.ofNat nx)), (.int (Int32.ofNat xs.length)), (.int (0 : Int32)), (.ref b11), (.int (0 : Int32)), (.ref ax)])) rfl (by rw [hml]; rfl) (argsL := [(.int (Int32.ofNat xs.length)), (.int (Int32.ofNat nx))]) (rest := [(.int (0 : Int32)), (.ref b11), (.int (0 : Int32)), (.ref ax)]) (lenOf pd__28II_29I rfl) rfl (by show 2 * 0 + _ ≤ _; exact Nat.le_of_eq rfl) (hb hby d4_25) (fun _ _ => ⟨rfl, e11, (by decide : 1 + 0 ≤ _), (by decide : 8 + 0 ≤ _)⟩)
    dsimp only [Pt.U, Pt.locs, Pt.cells, Pt.slots] at X14 l14 y14 z14 st14 hQ14
    subst y14 z14
    obtain ⟨rfl, N14q, R14⟩ := hQ14
    have N14 : Fr n0 L14 := by rw [l14]; exact Fr.app N0 N14q
    replace R14 : Rep Z n0 T14.heap ((b11, Ar .int (nl (List.replicate nx 0))) :: (ax, Ar .int (nl xs)) :: Rst) := R14
    have pre15 : ∀ t, Steps p.tables e below (T14.setTop (mkF m 28 #[.val (.ref ax), .val (.int (Int32.ofNat nx)), .val (.ref b11)] [(.int (F5 (Int32.ofNat xs.length) (Int32.ofNat nx))), (.int (0 : Int32)), (.ref b11), (.int (0 : Int32)), (.ref ax)])) t → Steps p.tables e below (s₁.setTop (entryFrame m #[(.ref ax), (.int (Int32.ofNat nx))] 3)) t := fun t k => pre13 t (st14 t k)
    rw [own_min (by omega) (by omega) hle] at pre15
    obtain ⟨T16, h16, ls16, X16, e16, N16, R16, st16⟩ := gCopy X14 hx hZ hown (hw _ (List.mem_of_getElem? (i := 47) rfl)) (hw _ (List.mem_of_getElem? (i := 50) rfl)) (hw _ (List.mem_of_getElem? (i := 48) rfl)) (hw _ (List.mem_of_getElem? (i := 49) rfl)) rfl N14 R14 1 0 rfl rfl rfl (by rw [nl_len]; omega) (by rw [nl_len, List.length_replicate]; omega) (sp := (0 : Int32)) (dp := (0 : Int32)) (nn := (Int32.ofNat nx)) (by decide) (by decide) (n_nn (by omega)) 0 0 nx (rfl) (rfl) (n_ix (by omega)) (by rw [nl_len]; omega) (by rw [nl_len, List.length_replicate]; omega) (g := (mkF m 28 #[.val (.ref ax), .val (.int (Int32.ofNat nx)), .val (.ref b11)] [(.int (Int32.ofNat nx)), (.int (0 : Int32)), (.ref b11), (.int (0 : Int32)), (.ref ax)])) rfl (by rw [hml]; rfl) rfl (hb hby d4_28) (by decide) (W := 0) (by show 2 * 0 + _ ≤ _; exact Nat.le_of_eq rfl) (by decide)
    replace R16 : Rep Z n0 h16 ((b11, Ar .int (nl (xs.take nx))) :: (ax, Ar .int (nl xs)) :: Rst) := own_copy hle ▸ R16
    have pre17 : ∀ t, Steps p.tables e below (T16.setTop (mkF m 31 #[.val (.ref ax), .val (.int (Int32.ofNat nx)), .val (.ref b11)] [])) t → Steps p.tables e below (s₁.setTop (entryFrame m #[(.ref ax), (.int (Int32.ofNat nx))] 3)) t := fun t k => pre15 t (st16 t k)
    have pre18 : ∀ t, Steps p.tables e below (T16.setTop (mkF m 32 #[.val (.ref ax), .val (.int (Int32.ofNat nx)), .val (.ref b11)] [(.ref b11)])) t → Steps p.tables e below (s₁.setTop (entryFrame m #[(.ref ax), (.int (Int32.ofNat nx))] 3)) t := fun t k => pre17 t (by
      show Steps p.tables e below (T16.setTop (mkF m 31 #[.val (.ref ax), .val (.int (Int32.ofNat nx)), .val (.ref b11)] [])) _
      refine XS.aloadN X16.here hx rfl (hb hby d4_31) rfl rfl ?_
      exact k)
    obtain ⟨fs, hr, hrun, hended, hW, hsame⟩ := X16.leave (v := some (.ref b11)) (fun h => by rw [Bd.returns] at h; cases h)
    refine ⟨_, _, pre18 _ ?_, hrun, hended, _, _, rfl, ?_, ⟨_, rfl⟩, hW, hsame.mono (by decide) (by decide)⟩
    · show Steps p.tables e below (T16.setTop (mkF m 32 #[.val (.ref ax), .val (.int (Int32.ofNat nx)), .val (.ref b11)] [(.ref b11)])) _
      exact Jvm.Own.retA X16 hx (t := (.array .int)) rfl Bd.returns (hb hby d4_32) hr
    · show Q4 Z ax nx xs n0 Rst _ T16.heap _
      rw [e16]
      exact ⟨b11, rfl, N16, (by exact R16)⟩
theorem d1_87 : decode prog_15_method_1_code 87 = .ok (.iload 7, 2) := by decide +kernel
theorem d1_89 : decode prog_15_method_1_code 89 = .ok (.iload 6, 2) := by decide +kernel
theorem d1_91 : decode prog_15_method_1_code 91 = .ok (.if_icmp .ge 27, 3) := by decide +kernel
theorem d1_94 : decode prog_15_method_1_code 94 = .ok (.aload 5, 2) := by decide +kernel
theorem d1_96 : decode prog_15_method_1_code 96 = .ok (.iload 7, 2) := by decide +kernel
theorem d1_98 : decode prog_15_method_1_code 98 = .ok (.iaload, 1) := by decide +kernel
theorem d1_99 : decode prog_15_method_1_code 99 = .ok (.istore 8, 2) := by decide +kernel
theorem d1_101 : decode prog_15_method_1_code 101 = .ok (.aload_n 0, 1) := by decide +kernel
theorem d1_102 : decode prog_15_method_1_code 102 = .ok (.getfield 33, 3) := by decide +kernel
theorem d1_105 : decode prog_15_method_1_code 105 = .ok (.iload 8, 2) := by decide +kernel
theorem d1_107 : decode prog_15_method_1_code 107 = .ok (.dup2, 1) := by decide +kernel
theorem d1_108 : decode prog_15_method_1_code 108 = .ok (.iaload, 1) := by decide +kernel
theorem d1_109 : decode prog_15_method_1_code 109 = .ok (.iconst 1, 1) := by decide +kernel
theorem d1_110 : decode prog_15_method_1_code 110 = .ok (.iadd, 1) := by decide +kernel
theorem d1_111 : decode prog_15_method_1_code 111 = .ok (.iastore, 1) := by decide +kernel
theorem d1_112 : decode prog_15_method_1_code 112 = .ok (.iinc 7 1, 3) := by decide +kernel
theorem d1_115 : decode prog_15_method_1_code 115 = .ok (.goto (-28), 3) := by decide +kernel
set_option maxRecDepth 65536 in
set_option maxHeartbeats 40000000 in
theorem l1_turn {p : Program} {l : Launch} {e : Env} {R : Room} {s : State} {m : MethodId} {args : Array Value} {below : List Frame} {meth : Method} {c : Code} {T0 : State} {locs : List Loc} {cells slots : Nat} {Z : State} {a0 : Array Value} {h0 : Heap} {n0 : Nat} {Rst : RL} (ax : Addr) (ix : Addr) (b1 : Addr) (b2 : Addr) (b3 : Addr) (b4 : Addr) (b5 : Addr) (b6 : Addr) (b7 : Addr) (cnt : Nat) (sz : Nat) (cap : Nat) (i : Nat) (s8 : Slot) (en : List Nat) (es : List Nat)
    (X0 : Stand p l e R s m args below meth c T0 locs cells slots) (hx : p.tables.exec = Jvm.exec) (hZ : Z.Warmed39 s.vm) (hw : ∀ d ∈ tables_1, d.before a0 Z = true) (hby : c.code = prog_15_method_1_code) (hml : c.maxLocals = 9) (hown : s.vm.findClass "com/example/witgen/witgen/regex/Partition" = some m.cls) (e0 : T0.heap = h0) (N0 : Fr n0 locs) (R0 : Rep Z n0 h0 ((ax, Obj "com/example/witgen/witgen/regex/Partition" [("elements", "[I", (.ref b1)), ("location", "[I", (.ref b2)), ("blockOf", "[I", (.ref b3)), ("start", "[I", (.ref b4)), ("end", "[I", (.ref b5)), ("marked", "[I", (.ref b6)), ("touched", "[I", (.ref b7)), ("blocks", "I", (.int (Int32.ofNat cnt))), ("touchedCount", "I", (.int (0 : Int32)))]) :: (b5, Ar .int (nl en)) :: (ix, Ar .int (nl es)) :: Rst)) (hi : i < sz) (hbd : sz < 1000) (hs8 : One1 s8) (hin98 : i < es.length) (hbd98 : i < 1000) (hin108 : (es.getD i 0) < en.length) (hbd108 : (es.getD i 0) < 1000) (hsn111 : (es.getD i 0) < en.length) (hsb111 : (es.getD i 0) < 1000) :
    ∃ (T' : State) (h' : Heap) (locs' : List Loc), Stand p l e R s m args below meth c T' locs' cells slots ∧ T'.heap = h' ∧ Fr n0 locs' ∧ Rep Z n0 h' ((ax, Obj "com/example/witgen/witgen/regex/Partition" [("elements", "[I", (.ref b1)), ("location", "[I", (.ref b2)), ("blockOf", "[I", (.ref b3)), ("start", "[I", (.ref b4)), ("end", "[I", (.ref b5)), ("marked", "[I", (.ref b6)), ("touched", "[I", (.ref b7)), ("blocks", "I", (.int (Int32.ofNat cnt))), ("touchedCount", "I", (.int (0 : Int32)))]) :: (b5, Ar .int (nl (en.set (es.getD i 0) ((en.getD (es.getD i 0) 0) + 1)))) :: (ix, Ar .int (nl es)) :: Rst) ∧ ∀ t, Steps p.tables e below (T'.setTop (mkF m 87 #[.val (.ref ax), .val (.ref ix), .val (.int (Int32.ofNat cnt)), .val (.int (Int32.ofNat sz)), .val (.int (Int32.ofNat cap)), .val (.ref ix), .val (.int (Int32.ofNat sz)), .val (.int (Int32.ofNat (i + 1))), .val (.int (Int32.ofNat (es.getD i 0)))] [])) t → Steps p.tables e below (T0.setTop (mkF m 87 #[.val (.ref ax), .val (.ref ix), .val (.int (Int32.ofNat cnt)), .val (.int (Int32.ofNat sz)), .val (.int (Int32.ofNat cap)), .val (.ref ix), .val (.int (Int32.ofNat sz)), .val (.int (Int32.ofNat i)), s8] [])) t := by
  have pre0 : ∀ t, Steps p.tables e below (T0.setTop (mkF m 87 #[.val (.ref ax), .val (.ref ix), .val (.int (Int32.ofNat cnt)), .val (.int (Int32.ofNat sz)), .val (.int (Int32.ofNat cap)), .val (.ref ix), .val (.int (Int32.ofNat sz)), .val (.int (Int32.ofNat i)), s8] [])) t → Steps p.tables e below (T0.setTop (mkF m 87 #[.val (.ref ax), .val (.ref ix), .val (.int (Int32.ofNat cnt)), .val (.int (Int32.ofNat sz)), .val (.int (Int32.ofNat cap)), .val (.ref ix), .val (.int (Int32.ofNat sz)), .val (.int (Int32.ofNat i)), s8] [])) t := fun t k => k
  have pre2 : ∀ t, Steps p.tables e below (T0.setTop (mkF m 91 #[.val (.ref ax), .val (.ref ix), .val (.int (Int32.ofNat cnt)), .val (.int (Int32.ofNat sz)), .val (.int (Int32.ofNat cap)), .val (.ref ix), .val (.int (Int32.ofNat sz)), .val (.int (Int32.ofNat i)), s8] [(.int (Int32.ofNat sz)), (.int (Int32.ofNat i))])) t → Steps p.tables e below (T0.setTop (mkF m 87 #[.val (.ref ax), .val (.ref ix), .val (.int (Int32.ofNat cnt)), .val (.int (Int32.ofNat sz)), .val (.int (Int32.ofNat cap)), .val (.ref ix), .val (.int (Int32.ofNat sz)), .val (.int (Int32.ofNat i)), s8] [])) t := fun t k => pre0 t (by
    show Steps p.tables e below (T0.setTop (mkF m 87 #[.val (.ref ax), .val (.ref ix), .val (.int (Int32.ofNat cnt)), .val (.int (Int32.ofNat sz)), .val (.int (Int32.ofNat cap)), .val (.ref ix), .val (.int (Int32.ofNat sz)), .val (.int (Int32.ofNat i)), s8] [])) _
    refine XS.iload X0.here hx rfl (hb hby d1_87) rfl ?_
    refine XS.iload X0.here hx rfl (hb hby d1_89) rfl ?_
    exact k)
  have hb1 : (Int32.ofNat i) < (Int32.ofNat sz) := n_lt hi hbd
  have pre3 : ∀ t, Steps p.tables e below (T0.setTop (mkF m 102 #[.val (.ref ax), .val (.ref ix), .val (.int (Int32.ofNat cnt)), .val (.int (Int32.ofNat sz)), .val (.int (Int32.ofNat cap)), .val (.ref ix), .val (.int (Int32.ofNat sz)), .val (.int (Int32.ofNat i)), .val (.int (Int32.ofNat (es.getD i 0)))] [(.ref ax)])) t → Steps p.tables e below (T0.setTop (mkF m 87 #[.val (.ref ax), .val (.ref ix), .val (.int (Int32.ofNat cnt)), .val (.int (Int32.ofNat sz)), .val (.int (Int32.ofNat cap)), .val (.ref ix), .val (.int (Int32.ofNat sz)), .val (.int (Int32.ofNat i)), s8] [])) t := fun t k => pre2 t (by
    show Steps p.tables e below (T0.setTop (mkF m 91 #[.val (.ref ax), .val (.ref ix), .val (.int (Int32.ofNat cnt)), .val (.int (Int32.ofNat sz)), .val (.int (Int32.ofNat cap)), .val (.ref ix), .val (.int (Int32.ofNat sz)), .val (.int (Int32.ofNat i)), s8] [(.int (Int32.ofNat sz)), (.int (Int32.ofNat i))])) _
    refine XS.icmpNo X0.here hx rfl (hb hby d1_91) rfl (tlt hb1).2.1 ?_
    refine XS.aload X0.here hx rfl (hb hby d1_94) rfl rfl ?_
    refine XS.iload X0.here hx rfl (hb hby d1_96) rfl ?_
    refine gIald X0 hx hZ e0 R0 2 rfl (j := (Int32.ofNat i)) (v := (.int (Int32.ofNat (es.getD i 0)))) (n_nn hbd98) (nl_at hin98 hbd98) (g := (mkF m 98 #[.val (.ref ax), .val (.ref ix), .val (.int (Int32.ofNat cnt)), .val (.int (Int32.ofNat sz)), .val (.int (Int32.ofNat cap)), .val (.ref ix), .val (.int (Int32.ofNat sz)), .val (.int (Int32.ofNat i)), s8] [(.int (Int32.ofNat i)), (.ref ix)])) rfl rfl (hb hby d1_98) _ ?_
    refine XS.istoreS X0.here hx rfl (hb hby d1_99) rfl (o := s8) rfl hs8 ?_
    refine XS.aloadN X0.here hx rfl (hb hby d1_101) rfl rfl ?_
    exact k)
  obtain ⟨T4, X4, e4, st4⟩ := gGet X0 hx hZ hown (host := "") (Or.inl (hw _ (List.mem_of_getElem? (i := 32) rfl))) e0 R0 0 4 rfl rfl (g := (mkF m 102 #[.val (.ref ax), .val (.ref ix), .val (.int (Int32.ofNat cnt)), .val (.int (Int32.ofNat sz)), .val (.int (Int32.ofNat cap)), .val (.ref ix), .val (.int (Int32.ofNat sz)), .val (.int (Int32.ofNat i)), .val (.int (Int32.ofNat (es.getD i 0)))] [(.ref ax)])) rfl rfl (hb hby d1_102)
  have pre5 : ∀ t, Steps p.tables e below (T4.setTop (mkF m 105 #[.val (.ref ax), .val (.ref ix), .val (.int (Int32.ofNat cnt)), .val (.int (Int32.ofNat sz)), .val (.int (Int32.ofNat cap)), .val (.ref ix), .val (.int (Int32.ofNat sz)), .val (.int (Int32.ofNat i)), .val (.int (Int32.ofNat (es.getD i 0)))] [(.ref b5)])) t → Steps p.tables e below (T0.setTop (mkF m 87 #[.val (.ref ax), .val (.ref ix), .val (.int (Int32.ofNat cnt)), .val (.int (Int32.ofNat sz)), .val (.int (Int32.ofNat cap)), .val (.ref ix), .val (.int (Int32.ofNat sz)), .val (.int (Int32.ofNat i)), s8] [])) t := fun t k => pre3 t (st4 t k)
  have pre6 : ∀ t, Steps p.tables e below (T4.setTop (mkF m 111 #[.val (.ref ax), .val (.ref ix), .val (.int (Int32.ofNat cnt)), .val (.int (Int32.ofNat sz)), .val (.int (Int32.ofNat cap)), .val (.ref ix), .val (.int (Int32.ofNat sz)), .val (.int (Int32.ofNat i)), .val (.int (Int32.ofNat (es.getD i 0)))] [(.int (Int32.ofNat ((en.getD (es.getD i 0) 0) + 1))), (.int (Int32.ofNat (es.getD i 0))), (.ref b5)])) t → Steps p.tables e below (T0.setTop (mkF m 87 #[.val (.ref ax), .val (.ref ix), .val (.int (Int32.ofNat cnt)), .val (.int (Int32.ofNat sz)), .val (.int (Int32.ofNat cap)), .val (.ref ix), .val (.int (Int32.ofNat sz)), .val (.int (Int32.ofNat i)), s8] [])) t := fun t k => pre5 t (by
    show Steps p.tables e below (T4.setTop (mkF m 105 #[.val (.ref ax), .val (.ref ix), .val (.int (Int32.ofNat cnt)), .val (.int (Int32.ofNat sz)), .val (.int (Int32.ofNat cap)), .val (.ref ix), .val (.int (Int32.ofNat sz)), .val (.int (Int32.ofNat i)), .val (.int (Int32.ofNat (es.getD i 0)))] [(.ref b5)])) _
    refine XS.iload X4.here hx rfl (hb hby d1_105) rfl ?_
    refine xDup2 X4.here hx rfl (hb hby d1_107) rfl rfl rfl ?_
    refine gIald X4 hx hZ e4 R0 1 rfl (j := (Int32.ofNat (es.getD i 0))) (v := (.int (Int32.ofNat (en.getD (es.getD i 0) 0)))) (n_nn hbd108) (nl_at hin108 hbd108) (g := (mkF m 108 #[.val (.ref ax), .val (.ref ix), .val (.int (Int32.ofNat cnt)), .val (.int (Int32.ofNat sz)), .val (.int (Int32.ofNat cap)), .val (.ref ix), .val (.int (Int32.ofNat sz)), .val (.int (Int32.ofNat i)), .val (.int (Int32.ofNat (es.getD i 0)))] [(.int (Int32.ofNat (es.getD i 0))), (.ref b5), (.int (Int32.ofNat (es.getD i 0))), (.ref b5)])) rfl rfl (hb hby d1_108) _ ?_
    refine XS.iconst X4.here hx rfl (hb hby d1_109) ?_
    refine XS.iadd X4.here hx rfl (hb hby d1_110) rfl ?_
    change Steps p.tables e below (T4.setTop (mkF m 111 #[.val (.ref ax), .val (.ref ix), .val (.int (Int32.ofNat cnt)), .val (.int (Int32.ofNat sz)), .val (.int (Int32.ofNat cap)), .val (.ref ix), .val (.int (Int32.ofNat sz)), .val (.int (Int32.ofNat i)), .val (.int (Int32.ofNat (es.getD i 0)))] [(.int ((Int32.ofNat (en.getD (es.getD i 0) 0)) + (1 : Int32))), (.int (Int32.ofNat (es.getD i 0))), (.ref b5)])) _
    rw [n_one]
    exact k)
  obtain ⟨T7, h7, ls7, X7, e7, N7, R7, st7⟩ := gIst X4 hx hZ e4 N0 R0 1 rfl (j := (Int32.ofNat (es.getD i 0))) (n_nn hsb111) ((es.getD i 0)) (n_ix hsb111) (nl_lt hsn111) (g := (mkF m 111 #[.val (.ref ax), .val (.ref ix), .val (.int (Int32.ofNat cnt)), .val (.int (Int32.ofNat sz)), .val (.int (Int32.ofNat cap)), .val (.ref ix), .val (.int (Int32.ofNat sz)), .val (.int (Int32.ofNat i)), .val (.int (Int32.ofNat (es.getD i 0)))] [(.int (Int32.ofNat ((en.getD (es.getD i 0) 0) + 1))), (.int (Int32.ofNat (es.getD i 0))), (.ref b5)])) rfl rfl (hb hby d1_111)
  replace R7 : Rep Z n0 h7 ((ax, Obj "com/example/witgen/witgen/regex/Partition" [("elements", "[I", (.ref b1)), ("location", "[I", (.ref b2)), ("blockOf", "[I", (.ref b3)), ("start", "[I", (.ref b4)), ("end", "[I", (.ref b5)), ("marked", "[I", (.ref b6)), ("touched", "[I", (.ref b7)), ("blocks", "I", (.int (Int32.ofNat cnt))), ("touchedCount", "I", (.int (0 : Int32)))]) :: (b5, Ar .int (nl (en.set (es.getD i 0) ((en.getD (es.getD i 0) 0) + 1)))) :: (ix, Ar .int (nl es)) :: Rst) := by rw [← nl_set en (es.getD i 0) ((en.getD (es.getD i 0) 0) + 1)]; exact R7
  have pre8 : ∀ t, Steps p.tables e below (T7.setTop (mkF m 112 #[.val (.ref ax), .val (.ref ix), .val (.int (Int32.ofNat cnt)), .val (.int (Int32.ofNat sz)), .val (.int (Int32.ofNat cap)), .val (.ref ix), .val (.int (Int32.ofNat sz)), .val (.int (Int32.ofNat i)), .val (.int (Int32.ofNat (es.getD i 0)))] [])) t → Steps p.tables e below (T0.setTop (mkF m 87 #[.val (.ref ax), .val (.ref ix), .val (.int (Int32.ofNat cnt)), .val (.int (Int32.ofNat sz)), .val (.int (Int32.ofNat cap)), .val (.ref ix), .val (.int (Int32.ofNat sz)), .val (.int (Int32.ofNat i)), s8] [])) t := fun t k => pre6 t (st7 t k)
  have pre9 : ∀ t, Steps p.tables e below (T7.setTop (mkF m 87 #[.val (.ref ax), .val (.ref ix), .val (.int (Int32.ofNat cnt)), .val (.int (Int32.ofNat sz)), .val (.int (Int32.ofNat cap)), .val (.ref ix), .val (.int (Int32.ofNat sz)), .val (.int (Int32.ofNat (i + 1))), .val (.int (Int32.ofNat (es.getD i 0)))] [])) t → Steps p.tables e below (T0.setTop (mkF m 87 #[.val (.ref ax), .val (.ref ix), .val (.int (Int32.ofNat cnt)), .val (.int (Int32.ofNat sz)), .val (.int (Int32.ofNat cap)), .val (.ref ix), .val (.int (Int32.ofNat sz)), .val (.int (Int32.ofNat i)), s8] [])) t := fun t k => pre8 t (by
    show Steps p.tables e below (T7.setTop (mkF m 112 #[.val (.ref ax), .val (.ref ix), .val (.int (Int32.ofNat cnt)), .val (.int (Int32.ofNat sz)), .val (.int (Int32.ofNat cap)), .val (.ref ix), .val (.int (Int32.ofNat sz)), .val (.int (Int32.ofNat i)), .val (.int (Int32.ofNat (es.getD i 0)))] [])) _
    refine XS.iinc X7.here hx rfl (hb hby d1_112) rfl (l' := #[.val (.ref ax), .val (.ref ix), .val (.int (Int32.ofNat cnt)), .val (.int (Int32.ofNat sz)), .val (.int (Int32.ofNat cap)), .val (.ref ix), .val (.int (Int32.ofNat sz)), .val (.int ((Int32.ofNat i) + (1 : Int32))), .val (.int (Int32.ofNat (es.getD i 0)))]) rfl ?_
    change Steps p.tables e below (T7.setTop (mkF m 115 #[.val (.ref ax), .val (.ref ix), .val (.int (Int32.ofNat cnt)), .val (.int (Int32.ofNat sz)), .val (.int (Int32.ofNat cap)), .val (.ref ix), .val (.int (Int32.ofNat sz)), .val (.int ((Int32.ofNat i) + (1 : Int32))), .val (.int (Int32.ofNat (es.getD i 0)))] [])) _
    rw [n_one]
    show Steps p.tables e below (T7.setTop (mkF m 115 #[.val (.ref ax), .val (.ref ix), .val (.int (Int32.ofNat cnt)), .val (.int (Int32.ofNat sz)), .val (.int (Int32.ofNat cap)), .val (.ref ix), .val (.int (Int32.ofNat sz)), .val (.int (Int32.ofNat (i + 1))), .val (.int (Int32.ofNat (es.getD i 0)))] [])) _
    refine XS.goto X7.here hx rfl (pc0 := 115) (pc' := 87) rfl (hb hby d1_115) (by decide) (by decide) ?_
    exact k)
  exact ⟨T7, h7, _, X7, e7, N7, R7, pre9⟩
set_option maxRecDepth 65536 in
set_option maxHeartbeats 40000000 in
theorem l1_out {p : Program} {l : Launch} {e : Env} {R : Room} {s : State} {m : MethodId} {args : Array Value} {below : List Frame} {meth : Method} {c : Code} {T0 : State} {locs : List Loc} {cells slots : Nat} {Z : State} {a0 : Array Value} {h0 : Heap} {n0 : Nat} {Rst : RL} (ax : Addr) (ix : Addr) (b1 : Addr) (b2 : Addr) (b3 : Addr) (b4 : Addr) (b5 : Addr) (b6 : Addr) (b7 : Addr) (cnt : Nat) (sz : Nat) (cap : Nat) (i : Nat) (s8 : Slot) (en : List Nat) (es : List Nat)
    (X0 : Stand p l e R s m args below meth c T0 locs cells slots) (hx : p.tables.exec = Jvm.exec) (hZ : Z.Warmed39 s.vm) (hw : ∀ d ∈ tables_1, d.before a0 Z = true) (hby : c.code = prog_15_method_1_code) (hml : c.maxLocals = 9) (hown : s.vm.findClass "com/example/witgen/witgen/regex/Partition" = some m.cls) (e0 : T0.heap = h0) (N0 : Fr n0 locs) (R0 : Rep Z n0 h0 ((ax, Obj "com/example/witgen/witgen/regex/Partition" [("elements", "[I", (.ref b1)), ("location", "[I", (.ref b2)), ("blockOf", "[I", (.ref b3)), ("start", "[I", (.ref b4)), ("end", "[I", (.ref b5)), ("marked", "[I", (.ref b6)), ("touched", "[I", (.ref b7)), ("blocks", "I", (.int (Int32.ofNat cnt))), ("touchedCount", "I", (.int (0 : Int32)))]) :: (b5, Ar .int (nl en)) :: (ix, Ar .int (nl es)) :: Rst)) (hi : sz ≤ i) (hbd : i < 1000) :
    ∃ (T' : State) (h' : Heap) (locs' : List Loc), Stand p l e R s m args below meth c T' locs' cells slots ∧ T'.heap = h' ∧ Fr n0 locs' ∧ Rep Z n0 h' ((ax, Obj "com/example/witgen/witgen/regex/Partition" [("elements", "[I", (.ref b1)), ("location", "[I", (.ref b2)), ("blockOf", "[I", (.ref b3)), ("start", "[I", (.ref b4)), ("end", "[I", (.ref b5)), ("marked", "[I", (.ref b6)), ("touched", "[I", (.ref b7)), ("blocks", "I", (.int (Int32.ofNat cnt))), ("touchedCount", "I", (.int (0 : Int32)))]) :: (b5, Ar .int (nl en)) :: (ix, Ar .int (nl es)) :: Rst) ∧ ∀ t, Steps p.tables e below (T'.setTop (mkF m 118 #[.val (.ref ax), .val (.ref ix), .val (.int (Int32.ofNat cnt)), .val (.int (Int32.ofNat sz)), .val (.int (Int32.ofNat cap)), .val (.ref ix), .val (.int (Int32.ofNat sz)), .val (.int (Int32.ofNat i)), s8] [])) t → Steps p.tables e below (T0.setTop (mkF m 87 #[.val (.ref ax), .val (.ref ix), .val (.int (Int32.ofNat cnt)), .val (.int (Int32.ofNat sz)), .val (.int (Int32.ofNat cap)), .val (.ref ix), .val (.int (Int32.ofNat sz)), .val (.int (Int32.ofNat i)), s8] [])) t := by
  have pre0 : ∀ t, Steps p.tables e below (T0.setTop (mkF m 87 #[.val (.ref ax), .val (.ref ix), .val (.int (Int32.ofNat cnt)), .val (.int (Int32.ofNat sz)), .val (.int (Int32.ofNat cap)), .val (.ref ix), .val (.int (Int32.ofNat sz)), .val (.int (Int32.ofNat i)), s8] [])) t → Steps p.tables e below (T0.setTop (mkF m 87 #[.val (.ref ax), .val (.ref ix), .val (.int (Int32.ofNat cnt)), .val (.int (Int32.ofNat sz)), .val (.int (Int32.ofNat cap)), .val (.ref ix), .val (.int (Int32.ofNat sz)), .val (.int (Int32.ofNat i)), s8] [])) t := fun t k => k
  have pre2 : ∀ t, Steps p.tables e below (T0.setTop (mkF m 91 #[.val (.ref ax), .val (.ref ix), .val (.int (Int32.ofNat cnt)), .val (.int (Int32.ofNat sz)), .val (.int (Int32.ofNat cap)), .val (.ref ix), .val (.int (Int32.ofNat sz)), .val (.int (Int32.ofNat i)), s8] [(.int (Int32.ofNat sz)), (.int (Int32.ofNat i))])) t → Steps p.tables e below (T0.setTop (mkF m 87 #[.val (.ref ax), .val (.ref ix), .val (.int (Int32.ofNat cnt)), .val (.int (Int32.ofNat sz)), .val (.int (Int32.ofNat cap)), .val (.ref ix), .val (.int (Int32.ofNat sz)), .val (.int (Int32.ofNat i)), s8] [])) t := fun t k => pre0 t (by
    show Steps p.tables e below (T0.setTop (mkF m 87 #[.val (.ref ax), .val (.ref ix), .val (.int (Int32.ofNat cnt)), .val (.int (Int32.ofNat sz)), .val (.int (Int32.ofNat cap)), .val (.ref ix), .val (.int (Int32.ofNat sz)), .val (.int (Int32.ofNat i)), s8] [])) _
    refine XS.iload X0.here hx rfl (hb hby d1_87) rfl ?_
    refine XS.iload X0.here hx rfl (hb hby d1_89) rfl ?_
    exact k)
  have hb1 : ¬ ((Int32.ofNat i) < (Int32.ofNat sz)) := n_nlt hi hbd
  have pre3 : ∀ t, Steps p.tables e below (T0.setTop (mkF m 118 #[.val (.ref ax), .val (.ref ix), .val (.int (Int32.ofNat cnt)), .val (.int (Int32.ofNat sz)), .val (.int (Int32.ofNat cap)), .val (.ref ix), .val (.int (Int32.ofNat sz)), .val (.int (Int32.ofNat i)), s8] [])) t → Steps p.tables e below (T0.setTop (mkF m 87 #[.val (.ref ax), .val (.ref ix), .val (.int (Int32.ofNat cnt)), .val (.int (Int32.ofNat sz)), .val (.int (Int32.ofNat cap)), .val (.ref ix), .val (.int (Int32.ofNat sz)), .val (.int (Int32.ofNat i)), s8] [])) t := fun t k => pre2 t (by
    show Steps p.tables e below (T0.setTop (mkF m 91 #[.val (.ref ax), .val (.ref ix), .val (.int (Int32.ofNat cnt)), .val (.int (Int32.ofNat sz)), .val (.int (Int32.ofNat cap)), .val (.ref ix), .val (.int (Int32.ofNat sz)), .val (.int (Int32.ofNat i)), s8] [(.int (Int32.ofNat sz)), (.int (Int32.ofNat i))])) _
    refine XS.icmpYes X0.here hx rfl (pc0 := 91) (pc' := 118) rfl (hb hby d1_91) rfl (flt hb1).2.1 (by decide) (by decide) ?_
    exact k)
  exact ⟨T0, h0, _, X0, e0, N0, R0, pre3⟩
def s1 (es : List Nat) : Nat → Nat → List Nat → List Nat
  | 0, _, en => en
  | k + 1, i, en => s1 es k (i + 1) (en.set (es.getD i 0) (en.getD (es.getD i 0) 0 + 1))
def ok1 (es : List Nat) : Nat → Nat → List Nat → Bool
  | 0, _, _ => true
  | k + 1, i, en => decide (i < es.length) && decide (i < 1000) && decide (es.getD i 0 < en.length) && decide (es.getD i 0 < 1000) && ok1 es k (i + 1) (en.set (es.getD i 0) (en.getD (es.getD i 0) 0 + 1))
theorem l1_loop {p : Program} {l : Launch} {e : Env} {R : Room} {s : State} {m : MethodId} {args : Array Value} {below : List Frame} {meth : Method} {c : Code} {cells slots : Nat} {Z : State} {a0 : Array Value} {n0 : Nat} {Rst : RL} (ax ix : Addr) (b1 b2 b3 b4 b5 b6 b7 : Addr) (cnt sz cap : Nat) (es : List Nat) (hbd : sz < 1000) (hx : p.tables.exec = Jvm.exec) (hZ : Z.Warmed39 s.vm) (hw : ∀ d ∈ tables_1, d.before a0 Z = true) (hby : c.code = prog_15_method_1_code) (hml : c.maxLocals = 9) (hown : s.vm.findClass "com/example/witgen/witgen/regex/Partition" = some m.cls) :
    ∀ (k i : Nat) (s8 : Slot) (en : List Nat) (T0 : State) (locs : List Loc) (h0 : Heap), i + k = sz → ok1 es k i en = true → One1 s8 → Stand p l e R s m args below meth c T0 locs cells slots → T0.heap = h0 → Fr n0 locs → Rep Z n0 h0 ((ax, Obj "com/example/witgen/witgen/regex/Partition" [("elements", "[I", (.ref b1)), ("location", "[I", (.ref b2)), ("blockOf", "[I", (.ref b3)), ("start", "[I", (.ref b4)), ("end", "[I", (.ref b5)), ("marked", "[I", (.ref b6)), ("touched", "[I", (.ref b7)), ("blocks", "I", (.int (Int32.ofNat cnt))), ("touchedCount", "I", (.int (0 : Int32)))]) :: (b5, Ar .int (nl en)) :: (ix, Ar .int (nl es)) :: Rst) →
      ∃ (s8' : Slot) (T' : State) (h' : Heap) (locs' : List Loc), One1 s8' ∧ Stand p l e R s m args below meth c T' locs' cells slots ∧ T'.heap = h' ∧ Fr n0 locs' ∧ Rep Z n0 h' ((ax, Obj "com/example/witgen/witgen/regex/Partition" [("elements", "[I", (.ref b1)), ("location", "[I", (.ref b2)), ("blockOf", "[I", (.ref b3)), ("start", "[I", (.ref b4)), ("end", "[I", (.ref b5)), ("marked", "[I", (.ref b6)), ("touched", "[I", (.ref b7)), ("blocks", "I", (.int (Int32.ofNat cnt))), ("touchedCount", "I", (.int (0 : Int32)))]) :: (b5, Ar .int (nl (s1 es k i en))) :: (ix, Ar .int (nl es)) :: Rst) ∧ ∀ t, Steps p.tables e below (T'.setTop (mkF m 118 #[.val (.ref ax), .val (.ref ix), .val (.int (Int32.ofNat cnt)), .val (.int (Int32.ofNat sz)), .val (.int (Int32.ofNat cap)), .val (.ref ix), .val (.int (Int32.ofNat sz)), .val (.int (Int32.ofNat sz)), s8'] [])) t → Steps p.tables e below (T0.setTop (mkF m 87 #[.val (.ref ax), .val (.ref ix), .val (.int (Int32.ofNat cnt)), .val (.int (Int32.ofNat sz)), .val (.int (Int32.ofNat cap)), .val (.ref ix), .val (.int (Int32.ofNat sz)), .val (.int (Int32.ofNat i)), s8] [])) t := by
  intro k
  induction k with
  | zero =>
    intro i s8 en T0 locs h0 hi ok o8 X0 e0 N0 R0
    have hi' : i = sz := by omega
    subst hi'
    obtain ⟨T1, h1, ls1, X1, e1, N1, R1, st1⟩ := l1_out ax ix b1 b2 b3 b4 b5 b6 b7 cnt i cap i s8 en es X0 hx hZ hw hby hml hown e0 N0 R0 (Nat.le_refl _) hbd
    exact ⟨s8, T1, h1, ls1, o8, X1, e1, N1, R1, st1⟩
  | succ k ih =>
    intro i s8 en T0 locs h0 hi ok o8 X0 e0 N0 R0
    simp only [ok1, Bool.and_eq_true, decide_eq_true_eq] at ok
    obtain ⟨⟨⟨⟨a1, a2⟩, a3⟩, a4⟩, a5⟩ := ok
    obtain ⟨T1, h1, ls1, X1, e1, N1, R1, st1⟩ := l1_turn ax ix b1 b2 b3 b4 b5 b6 b7 cnt sz cap i s8 en es X0 hx hZ hw hby hml hown e0 N0 R0 (by omega) hbd o8 a1 a2 a3 a4 a3 a4
    obtain ⟨s8', T2, h2, ls2, o2, X2, e2, N2, R2, st2⟩ := ih (i + 1) (.val (.int (Int32.ofNat (es.getD i 0)))) _ T1 ls1 h1 (by omega) a5 (One1.v rfl) X1 e1 N1 R1
    exact ⟨s8', T2, h2, ls2, o2, X2, e2, N2, R2, fun t q => st1 t (st2 t q)⟩
theorem d1_121 : decode prog_15_method_1_code 121 = .ok (.iload 5, 2) := by decide +kernel
theorem d1_123 : decode prog_15_method_1_code 123 = .ok (.iload_n 2, 1) := by decide +kernel
theorem d1_124 : decode prog_15_method_1_code 124 = .ok (.if_icmp .ge 28, 3) := by decide +kernel
theorem d1_127 : decode prog_15_method_1_code 127 = .ok (.aload_n 0, 1) := by decide +kernel
theorem d1_128 : decode prog_15_method_1_code 128 = .ok (.getfield 33, 3) := by decide +kernel
theorem d1_131 : decode prog_15_method_1_code 131 = .ok (.iload 5, 2) := by decide +kernel
theorem d1_133 : decode prog_15_method_1_code 133 = .ok (.dup2, 1) := by decide +kernel
theorem d1_134 : decode prog_15_method_1_code 134 = .ok (.iaload, 1) := by decide +kernel
theorem d1_135 : decode prog_15_method_1_code 135 = .ok (.aload_n 0, 1) := by decide +kernel
theorem d1_136 : decode prog_15_method_1_code 136 = .ok (.getfield 33, 3) := by decide +kernel
theorem d1_139 : decode prog_15_method_1_code 139 = .ok (.iload 5, 2) := by decide +kernel
theorem d1_141 : decode prog_15_method_1_code 141 = .ok (.iconst 1, 1) := by decide +kernel
theorem d1_142 : decode prog_15_method_1_code 142 = .ok (.isub, 1) := by decide +kernel
theorem d1_143 : decode prog_15_method_1_code 143 = .ok (.iaload, 1) := by decide +kernel
theorem d1_144 : decode prog_15_method_1_code 144 = .ok (.iadd, 1) := by decide +kernel
theorem d1_145 : decode prog_15_method_1_code 145 = .ok (.iastore, 1) := by decide +kernel
theorem d1_146 : decode prog_15_method_1_code 146 = .ok (.iinc 5 1, 3) := by decide +kernel
theorem d1_149 : decode prog_15_method_1_code 149 = .ok (.goto (-28), 3) := by decide +kernel
set_option maxRecDepth 65536 in
set_option maxHeartbeats 40000000 in
theorem l2_turn {p : Program} {l : Launch} {e : Env} {R : Room} {s : State} {m : MethodId} {args : Array Value} {below : List Frame} {meth : Method} {c : Code} {T0 : State} {locs : List Loc} {cells slots : Nat} {Z : State} {a0 : Array Value} {h0 : Heap} {n0 : Nat} {Rst : RL} (ax : Addr) (ix : Addr) (b1 : Addr) (b2 : Addr) (b3 : Addr) (b4 : Addr) (b5 : Addr) (b6 : Addr) (b7 : Addr) (cnt : Nat) (sz : Nat) (cap : Nat) (i : Nat) (s6 : Slot) (s7 : Slot) (s8 : Slot) (en : List Nat)
    (X0 : Stand p l e R s m args below meth c T0 locs cells slots) (hx : p.tables.exec = Jvm.exec) (hZ : Z.Warmed39 s.vm) (hw : ∀ d ∈ tables_1, d.before a0 Z = true) (hby : c.code = prog_15_method_1_code) (hml : c.maxLocals = 9) (hown : s.vm.findClass "com/example/witgen/witgen/regex/Partition" = some m.cls) (e0 : T0.heap = h0) (N0 : Fr n0 locs) (R0 : Rep Z n0 h0 ((ax, Obj "com/example/witgen/witgen/regex/Partition" [("elements", "[I", (.ref b1)), ("location", "[I", (.ref b2)), ("blockOf", "[I", (.ref b3)), ("start", "[I", (.ref b4)), ("end", "[I", (.ref b5)), ("marked", "[I", (.ref b6)), ("touched", "[I", (.ref b7)), ("blocks", "I", (.int (Int32.ofNat cnt))), ("touchedCount", "I", (.int (0 : Int32)))]) :: (b5, Ar .int (nl en)) :: Rst)) (hi : i < cnt) (hbd : cnt < 1000) (hin134 : i < en.length) (hbd134 : i < 1000) (hpr142 : 1 ≤ i) (hin143 : (i - 1) < en.length) (hbd143 : (i - 1) < 1000) (hsn145 : i < en.length) (hsb145 : i < 1000) :
    ∃ (T' : State) (h' : Heap) (locs' : List Loc), Stand p l e R s m args below meth c T' locs' cells slots ∧ T'.heap = h' ∧ Fr n0 locs' ∧ Rep Z n0 h' ((ax, Obj "com/example/witgen/witgen/regex/Partition" [("elements", "[I", (.ref b1)), ("location", "[I", (.ref b2)), ("blockOf", "[I", (.ref b3)), ("start", "[I", (.ref b4)), ("end", "[I", (.ref b5)), ("marked", "[I", (.ref b6)), ("touched", "[I", (.ref b7)), ("blocks", "I", (.int (Int32.ofNat cnt))), ("touchedCount", "I", (.int (0 : Int32)))]) :: (b5, Ar .int (nl (en.set i ((en.getD i 0) + (en.getD (i - 1) 0))))) :: Rst) ∧ ∀ t, Steps p.tables e below (T'.setTop (mkF m 121 #[.val (.ref ax), .val (.ref ix), .val (.int (Int32.ofNat cnt)), .val (.int (Int32.ofNat sz)), .val (.int (Int32.ofNat cap)), .val (.int (Int32.ofNat (i + 1))), s6, s7, s8] [])) t → Steps p.tables e below (T0.setTop (mkF m 121 #[.val (.ref ax), .val (.ref ix), .val (.int (Int32.ofNat cnt)), .val (.int (Int32.ofNat sz)), .val (.int (Int32.ofNat cap)), .val (.int (Int32.ofNat i)), s6, s7, s8] [])) t := by
  have pre0 : ∀ t, Steps p.tables e below (T0.setTop (mkF m 121 #[.val (.ref ax), .val (.ref ix), .val (.int (Int32.ofNat cnt)), .val (.int (Int32.ofNat sz)), .val (.int (Int32.ofNat cap)), .val (.int (Int32.ofNat i)), s6, s7, s8] [])) t → Steps p.tables e below (T0.setTop (mkF m 121 #[.val (.ref ax), .val (.ref ix), .val (.int (Int32.ofNat cnt)), .val (.int (Int32.ofNat sz)), .val (.int (Int32.ofNat cap)), .val (.int (Int32.ofNat i)), s6, s7, s8] [])) t := fun t k => k
  have pre2 : ∀ t, Steps p.tables e below (T0.setTop (mkF m 124 #[.val (.ref ax), .val (.ref ix), .val (.int (Int32.ofNat cnt)), .val (.int (Int32.ofNat sz)), .val (.int (Int32.ofNat cap)), .val (.int (Int32.ofNat i)), s6, s7, s8] [(.int (Int32.ofNat cnt)), (.int (Int32.ofNat i))])) t → Steps p.tables e below (T0.setTop (mkF m 121 #[.val (.ref ax), .val (.ref ix), .val (.int (Int32.ofNat cnt)), .val (.int (Int32.ofNat sz)), .val (.int (Int32.ofNat cap)), .val (.int (Int32.ofNat i)), s6, s7, s8] [])) t := fun t k => pre0 t (by
    show Steps p.tables e below (T0.setTop (mkF m 121 #[.val (.ref ax), .val (.ref ix), .val (.int (Int32.ofNat cnt)), .val (.int (Int32.ofNat sz)), .val (.int (Int32.ofNat cap)), .val (.int (Int32.ofNat i)), s6, s7, s8] [])) _
    refine XS.iload X0.here hx rfl (hb hby d1_121) rfl ?_
    refine XS.iloadN X0.here hx rfl (hb hby d1_123) rfl ?_
    exact k)
  have hb1 : (Int32.ofNat i) < (Int32.ofNat cnt) := n_lt hi hbd
  have pre3 : ∀ t, Steps p.tables e below (T0.setTop (mkF m 128 #[.val (.ref ax), .val (.ref ix), .val (.int (Int32.ofNat cnt)), .val (.int (Int32.ofNat sz)), .val (.int (Int32.ofNat cap)), .val (.int (Int32.ofNat i)), s6, s7, s8] [(.ref ax)])) t → Steps p.tables e below (T0.setTop (mkF m 121 #[.val (.ref ax), .val (.ref ix), .val (.int (Int32.ofNat cnt)), .val (.int (Int32.ofNat sz)), .val (.int (Int32.ofNat cap)), .val (.int (Int32.ofNat i)), s6, s7, s8] [])) t := fun t k => pre2 t (by
    show Steps p.tables e below (T0.setTop (mkF m 124 #[.val (.ref ax), .val (.ref ix), .val (.int (Int32.ofNat cnt)), .val (.int (Int32.ofNat sz)), .val (.int (Int32.ofNat cap)), .val (.int (Int32.ofNat i)), s6, s7, s8] [(.int (Int32.ofNat cnt)), (.int (Int32.ofNat i))])) _
    refine XS.icmpNo X0.here hx rfl (hb hby d1_124) rfl (tlt hb1).2.1 ?_
    refine XS.aloadN X0.here hx rfl (hb hby d1_127) rfl rfl ?_
    exact k)
  obtain ⟨T4, X4, e4, st4⟩ := gGet X0 hx hZ hown (host := "") (Or.inl (hw _ (List.mem_of_getElem? (i := 32) rfl))) e0 R0 0 4 rfl rfl (g := (mkF m 128 #[.val (.ref ax), .val (.ref ix), .val (.int (Int32.ofNat cnt)), .val (.int (Int32.ofNat sz)), .val (.int (Int32.ofNat cap)), .val (.int (Int32.ofNat i)), s6, s7, s8] [(.ref ax)])) rfl rfl (hb hby d1_128)
  have pre5 : ∀ t, Steps p.tables e below (T4.setTop (mkF m 131 #[.val (.ref ax), .val (.ref ix), .val (.int (Int32.ofNat cnt)), .val (.int (Int32.ofNat sz)), .val (.int (Int32.ofNat cap)), .val (.int (Int32.ofNat i)), s6, s7, s8] [(.ref b5)])) t → Steps p.tables e below (T0.setTop (mkF m 121 #[.val (.ref ax), .val (.ref ix), .val (.int (Int32.ofNat cnt)), .val (.int (Int32.ofNat sz)), .val (.int (Int32.ofNat cap)), .val (.int (Int32.ofNat i)), s6, s7, s8] [])) t := fun t k => pre3 t (st4 t k)
  have pre6 : ∀ t, Steps p.tables e below (T4.setTop (mkF m 136 #[.val (.ref ax), .val (.ref ix), .val (.int (Int32.ofNat cnt)), .val (.int (Int32.ofNat sz)), .val (.int (Int32.ofNat cap)), .val (.int (Int32.ofNat i)), s6, s7, s8] [(.ref ax), (.int (Int32.ofNat (en.getD i 0))), (.int (Int32.ofNat i)), (.ref b5)])) t → Steps p.tables e below (T0.setTop (mkF m 121 #[.val (.ref ax), .val (.ref ix), .val (.int (Int32.ofNat cnt)), .val (.int (Int32.ofNat sz)), .val (.int (Int32.ofNat cap)), .val (.int (Int32.ofNat i)), s6, s7, s8] [])) t := fun t k => pre5 t (by
    show Steps p.tables e below (T4.setTop (mkF m 131 #[.val (.ref ax), .val (.ref ix), .val (.int (Int32.ofNat cnt)), .val (.int (Int32.ofNat sz)), .val (.int (Int32.ofNat cap)), .val (.int (Int32.ofNat i)), s6, s7, s8] [(.ref b5)])) _
    refine XS.iload X4.here hx rfl (hb hby d1_131) rfl ?_
    refine xDup2 X4.here hx rfl (hb hby d1_133) rfl rfl rfl ?_
    refine gIald X4 hx hZ e4 R0 1 rfl (j := (Int32.ofNat i)) (v := (.int (Int32.ofNat (en.getD i 0)))) (n_nn hbd134) (nl_at hin134 hbd134) (g := (mkF m 134 #[.val (.ref ax), .val (.ref ix), .val (.int (Int32.ofNat cnt)), .val (.int (Int32.ofNat sz)), .val (.int (Int32.ofNat cap)), .val (.int (Int32.ofNat i)), s6, s7, s8] [(.int (Int32.ofNat i)), (.ref b5), (.int (Int32.ofNat i)), (.ref b5)])) rfl rfl (hb hby d1_134) _ ?_
    refine XS.aloadN X4.here hx rfl (hb hby d1_135) rfl rfl ?_
    exact k)
  obtain ⟨T7, X7, e7, st7⟩ := gGet X4 hx hZ hown (host := "") (Or.inl (hw _ (List.mem_of_getElem? (i := 32) rfl))) e4 R0 0 4 rfl rfl (g := (mkF m 136 #[.val (.ref ax), .val (.ref ix), .val (.int (Int32.ofNat cnt)), .val (.int (Int32.ofNat sz)), .val (.int (Int32.ofNat cap)), .val (.int (Int32.ofNat i)), s6, s7, s8] [(.ref ax), (.int (Int32.ofNat (en.getD i 0))), (.int (Int32.ofNat i)), (.ref b5)])) rfl rfl (hb hby d1_136)
  have pre8 : ∀ t, Steps p.tables e below (T7.setTop (mkF m 139 #[.val (.ref ax), .val (.ref ix), .val (.int (Int32.ofNat cnt)), .val (.int (Int32.ofNat sz)), .val (.int (Int32.ofNat cap)), .val (.int (Int32.ofNat i)), s6, s7, s8] [(.ref b5), (.int (Int32.ofNat (en.getD i 0))), (.int (Int32.ofNat i)), (.ref b5)])) t → Steps p.tables e below (T0.setTop (mkF m 121 #[.val (.ref ax), .val (.ref ix), .val (.int (Int32.ofNat cnt)), .val (.int (Int32.ofNat sz)), .val (.int (Int32.ofNat cap)), .val (.int (Int32.ofNat i)), s6, s7, s8] [])) t := fun t k => pre6 t (st7 t k)
  have pre9 : ∀ t, Steps p.tables e below (T7.setTop (mkF m 145 #[.val (.ref ax), .val (.ref ix), .val (.int (Int32.ofNat cnt)), .val (.int (Int32.ofNat sz)), .val (.int (Int32.ofNat cap)), .val (.int (Int32.ofNat i)), s6, s7, s8] [(.int (Int32.ofNat ((en.getD i 0) + (en.getD (i - 1) 0)))), (.int (Int32.ofNat i)), (.ref b5)])) t → Steps p.tables e below (T0.setTop (mkF m 121 #[.val (.ref ax), .val (.ref ix), .val (.int (Int32.ofNat cnt)), .val (.int (Int32.ofNat sz)), .val (.int (Int32.ofNat cap)), .val (.int (Int32.ofNat i)), s6, s7, s8] [])) t := fun t k => pre8 t (by
    show Steps p.tables e below (T7.setTop (mkF m 139 #[.val (.ref ax), .val (.ref ix), .val (.int (Int32.ofNat cnt)), .val (.int (Int32.ofNat sz)), .val (.int (Int32.ofNat cap)), .val (.int (Int32.ofNat i)), s6, s7, s8] [(.ref b5), (.int (Int32.ofNat (en.getD i 0))), (.int (Int32.ofNat i)), (.ref b5)])) _
    refine XS.iload X7.here hx rfl (hb hby d1_139) rfl ?_
    refine XS.iconst X7.here hx rfl (hb hby d1_141) ?_
    refine XS.isub X7.here hx rfl (hb hby d1_142) rfl ?_
    change Steps p.tables e below (T7.setTop (mkF m 143 #[.val (.ref ax), .val (.ref ix), .val (.int (Int32.ofNat cnt)), .val (.int (Int32.ofNat sz)), .val (.int (Int32.ofNat cap)), .val (.int (Int32.ofNat i)), s6, s7, s8] [(.int ((Int32.ofNat i) - (1 : Int32))), (.ref b5), (.int (Int32.ofNat (en.getD i 0))), (.int (Int32.ofNat i)), (.ref b5)])) _
    rw [n_pred hpr142]
    show Steps p.tables e below (T7.setTop (mkF m 143 #[.val (.ref ax), .val (.ref ix), .val (.int (Int32.ofNat cnt)), .val (.int (Int32.ofNat sz)), .val (.int (Int32.ofNat cap)), .val (.int (Int32.ofNat i)), s6, s7, s8] [(.int (Int32.ofNat (i - 1))), (.ref b5), (.int (Int32.ofNat (en.getD i 0))), (.int (Int32.ofNat i)), (.ref b5)])) _
    refine gIald X7 hx hZ e7 R0 1 rfl (j := (Int32.ofNat (i - 1))) (v := (.int (Int32.ofNat (en.getD (i - 1) 0)))) (n_nn hbd143) (nl_at hin143 hbd143) (g := (mkF m 143 #[.val (.ref ax), .val (.ref ix), .val (.int (Int32.ofNat cnt)), .val (.int (Int32.ofNat sz)), .val (.int (Int32.ofNat cap)), .val (.int (Int32.ofNat i)), s6, s7, s8] [(.int (Int32.ofNat (i - 1))), (.ref b5), (.int (Int32.ofNat (en.getD i 0))), (.int (Int32.ofNat i)), (.ref b5)])) rfl rfl (hb hby d1_143) _ ?_
    refine XS.iadd X7.here hx rfl (hb hby d1_144) rfl ?_
    change Steps p.tables e below (T7.setTop (mkF m 145 #[.val (.ref ax), .val (.ref ix), .val (.int (Int32.ofNat cnt)), .val (.int (Int32.ofNat sz)), .val (.int (Int32.ofNat cap)), .val (.int (Int32.ofNat i)), s6, s7, s8] [(.int ((Int32.ofNat (en.getD i 0)) + (Int32.ofNat (en.getD (i - 1) 0)))), (.int (Int32.ofNat i)), (.ref b5)])) _
    rw [n_add]
    exact k)
  obtain ⟨T10, h10, ls10, X10, e10, N10, R10, st10⟩ := gIst X7 hx hZ e7 N0 R0 1 rfl (j := (Int32.ofNat i)) (n_nn hsb145) (i) (n_ix hsb145) (nl_lt hsn145) (g := (mkF m 145 #[.val (.ref ax), .val (.ref ix), .val (.int (Int32.ofNat cnt)), .val (.int (Int32.ofNat sz)), .val (.int (Int32.ofNat cap)), .val (.int (Int32.ofNat i)), s6, s7, s8] [(.int (Int32.ofNat ((en.getD i 0) + (en.getD (i - 1) 0)))), (.int (Int32.ofNat i)), (.ref b5)])) rfl rfl (hb hby d1_145)
  replace R10 : Rep Z n0 h10 ((ax, Obj "com/example/witgen/witgen/regex/Partition" [("elements", "[I", (.ref b1)), ("location", "[I", (.ref b2)), ("blockOf", "[I", (.ref b3)), ("start", "[I", (.ref b4)), ("end", "[I", (.ref b5)), ("marked", "[I", (.ref b6)), ("touched", "[I", (.ref b7)), ("blocks", "I", (.int (Int32.ofNat cnt))), ("touchedCount", "I", (.int (0 : Int32)))]) :: (b5, Ar .int (nl (en.set i ((en.getD i 0) + (en.getD (i - 1) 0))))) :: Rst) := by rw [← nl_set en i ((en.getD i 0) + (en.getD (i - 1) 0))]; exact R10
  have pre11 : ∀ t, Steps p.tables e below (T10.setTop (mkF m 146 #[.val (.ref ax), .val (.ref ix), .val (.int (Int32.ofNat cnt)), .val (.int (Int32.ofNat sz)), .val (.int (Int32.ofNat cap)), .val (.int (Int32.ofNat i)), s6, s7, s8] [])) t → Steps p.tables e below (T0.setTop (mkF m 121 #[.val (.ref ax), .val (.ref ix), .val (.int (Int32.ofNat cnt)), .val (.int (Int32.ofNat sz)), .val (.int (Int32.ofNat cap)), .val (.int (Int32.ofNat i)), s6, s7, s8] [])) t := fun t k => pre9 t (st10 t k)
  have pre12 : ∀ t, Steps p.tables e below (T10.setTop (mkF m 121 #[.val (.ref ax), .val (.ref ix), .val (.int (Int32.ofNat cnt)), .val (.int (Int32.ofNat sz)), .val (.int (Int32.ofNat cap)), .val (.int (Int32.ofNat (i + 1))), s6, s7, s8] [])) t → Steps p.tables e below (T0.setTop (mkF m 121 #[.val (.ref ax), .val (.ref ix), .val (.int (Int32.ofNat cnt)), .val (.int (Int32.ofNat sz)), .val (.int (Int32.ofNat cap)), .val (.int (Int32.ofNat i)), s6, s7, s8] [])) t := fun t k => pre11 t (by
    show Steps p.tables e below (T10.setTop (mkF m 146 #[.val (.ref ax), .val (.ref ix), .val (.int (Int32.ofNat cnt)), .val (.int (Int32.ofNat sz)), .val (.int (Int32.ofNat cap)), .val (.int (Int32.ofNat i)), s6, s7, s8] [])) _
    refine XS.iinc X10.here hx rfl (hb hby d1_146) rfl (l' := #[.val (.ref ax), .val (.ref ix), .val (.int (Int32.ofNat cnt)), .val (.int (Int32.ofNat sz)), .val (.int (Int32.ofNat cap)), .val (.int ((Int32.ofNat i) + (1 : Int32))), s6, s7, s8]) rfl ?_
    change Steps p.tables e below (T10.setTop (mkF m 149 #[.val (.ref ax), .val (.ref ix), .val (.int (Int32.ofNat cnt)), .val (.int (Int32.ofNat sz)), .val (.int (Int32.ofNat cap)), .val (.int ((Int32.ofNat i) + (1 : Int32))), s6, s7, s8] [])) _
    rw [n_one]
    show Steps p.tables e below (T10.setTop (mkF m 149 #[.val (.ref ax), .val (.ref ix), .val (.int (Int32.ofNat cnt)), .val (.int (Int32.ofNat sz)), .val (.int (Int32.ofNat cap)), .val (.int (Int32.ofNat (i + 1))), s6, s7, s8] [])) _
    refine XS.goto X10.here hx rfl (pc0 := 149) (pc' := 121) rfl (hb hby d1_149) (by decide) (by decide) ?_
    exact k)
  exact ⟨T10, h10, _, X10, e10, N10, R10, pre12⟩
set_option maxRecDepth 65536 in
set_option maxHeartbeats 40000000 in
theorem l2_out {p : Program} {l : Launch} {e : Env} {R : Room} {s : State} {m : MethodId} {args : Array Value} {below : List Frame} {meth : Method} {c : Code} {T0 : State} {locs : List Loc} {cells slots : Nat} {Z : State} {a0 : Array Value} {h0 : Heap} {n0 : Nat} {Rst : RL} (ax : Addr) (ix : Addr) (b1 : Addr) (b2 : Addr) (b3 : Addr) (b4 : Addr) (b5 : Addr) (b6 : Addr) (b7 : Addr) (cnt : Nat) (sz : Nat) (cap : Nat) (i : Nat) (s6 : Slot) (s7 : Slot) (s8 : Slot) (en : List Nat)
    (X0 : Stand p l e R s m args below meth c T0 locs cells slots) (hx : p.tables.exec = Jvm.exec) (hZ : Z.Warmed39 s.vm) (hw : ∀ d ∈ tables_1, d.before a0 Z = true) (hby : c.code = prog_15_method_1_code) (hml : c.maxLocals = 9) (hown : s.vm.findClass "com/example/witgen/witgen/regex/Partition" = some m.cls) (e0 : T0.heap = h0) (N0 : Fr n0 locs) (R0 : Rep Z n0 h0 ((ax, Obj "com/example/witgen/witgen/regex/Partition" [("elements", "[I", (.ref b1)), ("location", "[I", (.ref b2)), ("blockOf", "[I", (.ref b3)), ("start", "[I", (.ref b4)), ("end", "[I", (.ref b5)), ("marked", "[I", (.ref b6)), ("touched", "[I", (.ref b7)), ("blocks", "I", (.int (Int32.ofNat cnt))), ("touchedCount", "I", (.int (0 : Int32)))]) :: (b5, Ar .int (nl en)) :: Rst)) (hi : cnt ≤ i) (hbd : i < 1000) :
    ∃ (T' : State) (h' : Heap) (locs' : List Loc), Stand p l e R s m args below meth c T' locs' cells slots ∧ T'.heap = h' ∧ Fr n0 locs' ∧ Rep Z n0 h' ((ax, Obj "com/example/witgen/witgen/regex/Partition" [("elements", "[I", (.ref b1)), ("location", "[I", (.ref b2)), ("blockOf", "[I", (.ref b3)), ("start", "[I", (.ref b4)), ("end", "[I", (.ref b5)), ("marked", "[I", (.ref b6)), ("touched", "[I", (.ref b7)), ("blocks", "I", (.int (Int32.ofNat cnt))), ("touchedCount", "I", (.int (0 : Int32)))]) :: (b5, Ar .int (nl en)) :: Rst) ∧ ∀ t, Steps p.tables e below (T'.setTop (mkF m 152 #[.val (.ref ax), .val (.ref ix), .val (.int (Int32.ofNat cnt)), .val (.int (Int32.ofNat sz)), .val (.int (Int32.ofNat cap)), .val (.int (Int32.ofNat i)), s6, s7, s8] [])) t → Steps p.tables e below (T0.setTop (mkF m 121 #[.val (.ref ax), .val (.ref ix), .val (.int (Int32.ofNat cnt)), .val (.int (Int32.ofNat sz)), .val (.int (Int32.ofNat cap)), .val (.int (Int32.ofNat i)), s6, s7, s8] [])) t := by
  have pre0 : ∀ t, Steps p.tables e below (T0.setTop (mkF m 121 #[.val (.ref ax), .val (.ref ix), .val (.int (Int32.ofNat cnt)), .val (.int (Int32.ofNat sz)), .val (.int (Int32.ofNat cap)), .val (.int (Int32.ofNat i)), s6, s7, s8] [])) t → Steps p.tables e below (T0.setTop (mkF m 121 #[.val (.ref ax), .val (.ref ix), .val (.int (Int32.ofNat cnt)), .val (.int (Int32.ofNat sz)), .val (.int (Int32.ofNat cap)), .val (.int (Int32.ofNat i)), s6, s7, s8] [])) t := fun t k => k
  have pre2 : ∀ t, Steps p.tables e below (T0.setTop (mkF m 124 #[.val (.ref ax), .val (.ref ix), .val (.int (Int32.ofNat cnt)), .val (.int (Int32.ofNat sz)), .val (.int (Int32.ofNat cap)), .val (.int (Int32.ofNat i)), s6, s7, s8] [(.int (Int32.ofNat cnt)), (.int (Int32.ofNat i))])) t → Steps p.tables e below (T0.setTop (mkF m 121 #[.val (.ref ax), .val (.ref ix), .val (.int (Int32.ofNat cnt)), .val (.int (Int32.ofNat sz)), .val (.int (Int32.ofNat cap)), .val (.int (Int32.ofNat i)), s6, s7, s8] [])) t := fun t k => pre0 t (by
    show Steps p.tables e below (T0.setTop (mkF m 121 #[.val (.ref ax), .val (.ref ix), .val (.int (Int32.ofNat cnt)), .val (.int (Int32.ofNat sz)), .val (.int (Int32.ofNat cap)), .val (.int (Int32.ofNat i)), s6, s7, s8] [])) _
    refine XS.iload X0.here hx rfl (hb hby d1_121) rfl ?_
    refine XS.iloadN X0.here hx rfl (hb hby d1_123) rfl ?_
    exact k)
  have hb1 : ¬ ((Int32.ofNat i) < (Int32.ofNat cnt)) := n_nlt hi hbd
  have pre3 : ∀ t, Steps p.tables e below (T0.setTop (mkF m 152 #[.val (.ref ax), .val (.ref ix), .val (.int (Int32.ofNat cnt)), .val (.int (Int32.ofNat sz)), .val (.int (Int32.ofNat cap)), .val (.int (Int32.ofNat i)), s6, s7, s8] [])) t → Steps p.tables e below (T0.setTop (mkF m 121 #[.val (.ref ax), .val (.ref ix), .val (.int (Int32.ofNat cnt)), .val (.int (Int32.ofNat sz)), .val (.int (Int32.ofNat cap)), .val (.int (Int32.ofNat i)), s6, s7, s8] [])) t := fun t k => pre2 t (by
    show Steps p.tables e below (T0.setTop (mkF m 124 #[.val (.ref ax), .val (.ref ix), .val (.int (Int32.ofNat cnt)), .val (.int (Int32.ofNat sz)), .val (.int (Int32.ofNat cap)), .val (.int (Int32.ofNat i)), s6, s7, s8] [(.int (Int32.ofNat cnt)), (.int (Int32.ofNat i))])) _
    refine XS.icmpYes X0.here hx rfl (pc0 := 124) (pc' := 152) rfl (hb hby d1_124) rfl (flt hb1).2.1 (by decide) (by decide) ?_
    exact k)
  exact ⟨T0, h0, _, X0, e0, N0, R0, pre3⟩
def s2 : Nat → Nat → List Nat → List Nat
  | 0, _, en => en
  | k + 1, i, en => s2 k (i + 1) (en.set i (en.getD i 0 + en.getD (i - 1) 0))
def ok2 : Nat → Nat → List Nat → Bool
  | 0, _, _ => true
  | k + 1, i, en => decide (1 ≤ i) && decide (i < en.length) && decide (i < 1000) && ok2 k (i + 1) (en.set i (en.getD i 0 + en.getD (i - 1) 0))
theorem l2_loop {p : Program} {l : Launch} {e : Env} {R : Room} {s : State} {m : MethodId} {args : Array Value} {below : List Frame} {meth : Method} {c : Code} {cells slots : Nat} {Z : State} {a0 : Array Value} {n0 : Nat} {Rst : RL} (ax ix : Addr) (b1 b2 b3 b4 b5 b6 b7 : Addr) (cnt sz cap : Nat) (s6 s7 s8 : Slot) (hbd : cnt < 1000) (hx : p.tables.exec = Jvm.exec) (hZ : Z.Warmed39 s.vm) (hw : ∀ d ∈ tables_1, d.before a0 Z = true) (hby : c.code = prog_15_method_1_code) (hml : c.maxLocals = 9) (hown : s.vm.findClass "com/example/witgen/witgen/regex/Partition" = some m.cls) :
    ∀ (k i : Nat) (en : List Nat) (T0 : State) (locs : List Loc) (h0 : Heap), i + k = cnt → ok2 k i en = true → Stand p l e R s m args below meth c T0 locs cells slots → T0.heap = h0 → Fr n0 locs → Rep Z n0 h0 ((ax, Obj "com/example/witgen/witgen/regex/Partition" [("elements", "[I", (.ref b1)), ("location", "[I", (.ref b2)), ("blockOf", "[I", (.ref b3)), ("start", "[I", (.ref b4)), ("end", "[I", (.ref b5)), ("marked", "[I", (.ref b6)), ("touched", "[I", (.ref b7)), ("blocks", "I", (.int (Int32.ofNat cnt))), ("touchedCount", "I", (.int (0 : Int32)))]) :: (b5, Ar .int (nl en)) :: Rst) →
      ∃ (T' : State) (h' : Heap) (locs' : List Loc), Stand p l e R s m args below meth c T' locs' cells slots ∧ T'.heap = h' ∧ Fr n0 locs' ∧ Rep Z n0 h' ((ax, Obj "com/example/witgen/witgen/regex/Partition" [("elements", "[I", (.ref b1)), ("location", "[I", (.ref b2)), ("blockOf", "[I", (.ref b3)), ("start", "[I", (.ref b4)), ("end", "[I", (.ref b5)), ("marked", "[I", (.ref b6)), ("touched", "[I", (.ref b7)), ("blocks", "I", (.int (Int32.ofNat cnt))), ("touchedCount", "I", (.int (0 : Int32)))]) :: (b5, Ar .int (nl (s2 k i en))) :: Rst) ∧ ∀ t, Steps p.tables e below (T'.setTop (mkF m 152 #[.val (.ref ax), .val (.ref ix), .val (.int (Int32.ofNat cnt)), .val (.int (Int32.ofNat sz)), .val (.int (Int32.ofNat cap)), .val (.int (Int32.ofNat cnt)), s6, s7, s8] [])) t → Steps p.tables e below (T0.setTop (mkF m 121 #[.val (.ref ax), .val (.ref ix), .val (.int (Int32.ofNat cnt)), .val (.int (Int32.ofNat sz)), .val (.int (Int32.ofNat cap)), .val (.int (Int32.ofNat i)), s6, s7, s8] [])) t := by
  intro k
  induction k with
  | zero =>
    intro i en T0 locs h0 hi ok X0 e0 N0 R0
    have hi' : i = cnt := by omega
    subst hi'
    exact l2_out ax ix b1 b2 b3 b4 b5 b6 b7 i sz cap i s6 s7 s8 en X0 hx hZ hw hby hml hown e0 N0 R0 (Nat.le_refl _) hbd
  | succ k ih =>
    intro i en T0 locs h0 hi ok X0 e0 N0 R0
    simp only [ok2, Bool.and_eq_true, decide_eq_true_eq] at ok
    obtain ⟨⟨⟨a0', a1⟩, a2⟩, a5⟩ := ok
    obtain ⟨T1, h1, ls1, X1, e1, N1, R1, st1⟩ := l2_turn ax ix b1 b2 b3 b4 b5 b6 b7 cnt sz cap i s6 s7 s8 en X0 hx hZ hw hby hml hown e0 N0 R0 (by omega) hbd a1 a2 a0' (by omega) (by omega) a1 a2
    obtain ⟨T2, h2, ls2, X2, e2, N2, R2, st2⟩ := ih (i + 1) _ T1 ls1 h1 (by omega) a5 X1 e1 N1 R1
    exact ⟨T2, h2, ls2, X2, e2, N2, R2, fun t q => st1 t (st2 t q)⟩
theorem d1_155 : decode prog_15_method_1_code 155 = .ok (.iload 5, 2) := by decide +kernel
theorem d1_157 : decode prog_15_method_1_code 157 = .ok (.iload_n 2, 1) := by decide +kernel
theorem d1_158 : decode prog_15_method_1_code 158 = .ok (.if_icmp .ge 34, 3) := by decide +kernel
theorem d1_161 : decode prog_15_method_1_code 161 = .ok (.aload_n 0, 1) := by decide +kernel
theorem d1_162 : decode prog_15_method_1_code 162 = .ok (.getfield 30, 3) := by decide +kernel
theorem d1_165 : decode prog_15_method_1_code 165 = .ok (.iload 5, 2) := by decide +kernel
theorem d1_167 : decode prog_15_method_1_code 167 = .ok (.iload 5, 2) := by decide +kernel
theorem d1_169 : decode prog_15_method_1_code 169 = .ok (.ifCond .ne 7, 3) := by decide +kernel
theorem d1_172 : decode prog_15_method_1_code 172 = .ok (.iconst 0, 1) := by decide +kernel
theorem d1_173 : decode prog_15_method_1_code 173 = .ok (.goto 12, 3) := by decide +kernel
theorem d1_185 : decode prog_15_method_1_code 185 = .ok (.iastore, 1) := by decide +kernel
theorem d1_186 : decode prog_15_method_1_code 186 = .ok (.iinc 5 1, 3) := by decide +kernel
theorem d1_189 : decode prog_15_method_1_code 189 = .ok (.goto (-34), 3) := by decide +kernel
set_option maxRecDepth 65536 in
set_option maxHeartbeats 40000000 in
theorem l3_zero {p : Program} {l : Launch} {e : Env} {R : Room} {s : State} {m : MethodId} {args : Array Value} {below : List Frame} {meth : Method} {c : Code} {T0 : State} {locs : List Loc} {cells slots : Nat} {Z : State} {a0 : Array Value} {h0 : Heap} {n0 : Nat} {Rst : RL} (ax : Addr) (ix : Addr) (b1 : Addr) (b2 : Addr) (b3 : Addr) (b4 : Addr) (b5 : Addr) (b6 : Addr) (b7 : Addr) (cnt : Nat) (sz : Nat) (cap : Nat) (i : Nat) (s6 : Slot) (s7 : Slot) (s8 : Slot) (st : List Nat) (en : List Nat)
    (X0 : Stand p l e R s m args below meth c T0 locs cells slots) (hx : p.tables.exec = Jvm.exec) (hZ : Z.Warmed39 s.vm) (hw : ∀ d ∈ tables_1, d.before a0 Z = true) (hby : c.code = prog_15_method_1_code) (hml : c.maxLocals = 9) (hown : s.vm.findClass "com/example/witgen/witgen/regex/Partition" = some m.cls) (e0 : T0.heap = h0) (N0 : Fr n0 locs) (R0 : Rep Z n0 h0 ((ax, Obj "com/example/witgen/witgen/regex/Partition" [("elements", "[I", (.ref b1)), ("location", "[I", (.ref b2)), ("blockOf", "[I", (.ref b3)), ("start", "[I", (.ref b4)), ("end", "[I", (.ref b5)), ("marked", "[I", (.ref b6)), ("touched", "[I", (.ref b7)), ("blocks", "I", (.int (Int32.ofNat cnt))), ("touchedCount", "I", (.int (0 : Int32)))]) :: (b4, Ar .int (nl st)) :: (b5, Ar .int (nl en)) :: Rst)) (hi : i < cnt) (hbd : cnt < 1000) (hz : i = 0) (hsn185 : i < st.length) (hsb185 : i < 1000) :
    ∃ (T' : State) (h' : Heap) (locs' : List Loc), Stand p l e R s m args below meth c T' locs' cells slots ∧ T'.heap = h' ∧ Fr n0 locs' ∧ Rep Z n0 h' ((ax, Obj "com/example/witgen/witgen/regex/Partition" [("elements", "[I", (.ref b1)), ("location", "[I", (.ref b2)), ("blockOf", "[I", (.ref b3)), ("start", "[I", (.ref b4)), ("end", "[I", (.ref b5)), ("marked", "[I", (.ref b6)), ("touched", "[I", (.ref b7)), ("blocks", "I", (.int (Int32.ofNat cnt))), ("touchedCount", "I", (.int (0 : Int32)))]) :: (b4, Ar .int (nl (st.set i 0))) :: (b5, Ar .int (nl en)) :: Rst) ∧ ∀ t, Steps p.tables e below (T'.setTop (mkF m 155 #[.val (.ref ax), .val (.ref ix), .val (.int (Int32.ofNat cnt)), .val (.int (Int32.ofNat sz)), .val (.int (Int32.ofNat cap)), .val (.int (Int32.ofNat (i + 1))), s6, s7, s8] [])) t → Steps p.tables e below (T0.setTop (mkF m 155 #[.val (.ref ax), .val (.ref ix), .val (.int (Int32.ofNat cnt)), .val (.int (Int32.ofNat sz)), .val (.int (Int32.ofNat cap)), .val (.int (Int32.ofNat i)), s6, s7, s8] [])) t := by
  have pre0 : ∀ t, Steps p.tables e below (T0.setTop (mkF m 155 #[.val (.ref ax), .val (.ref ix), .val (.int (Int32.ofNat cnt)), .val (.int (Int32.ofNat sz)), .val (.int (Int32.ofNat cap)), .val (.int (Int32.ofNat i)), s6, s7, s8] [])) t → Steps p.tables e below (T0.setTop (mkF m 155 #[.val (.ref ax), .val (.ref ix), .val (.int (Int32.ofNat cnt)), .val (.int (Int32.ofNat sz)), .val (.int (Int32.ofNat cap)), .val (.int (Int32.ofNat i)), s6, s7, s8] [])) t := fun t k => k
  have pre2 : ∀ t, Steps p.tables e below (T0.setTop (mkF m 158 #[.val (.ref ax), .val (.ref ix), .val (.int (Int32.ofNat cnt)), .val (.int (Int32.ofNat sz)), .val (.int (Int32.ofNat cap)), .val (.int (Int32.ofNat i)), s6, s7, s8] [(.int (Int32.ofNat cnt)), (.int (Int32.ofNat i))])) t → Steps p.tables e below (T0.setTop (mkF m 155 #[.val (.ref ax), .val (.ref ix), .val (.int (Int32.ofNat cnt)), .val (.int (Int32.ofNat sz)), .val (.int (Int32.ofNat cap)), .val (.int (Int32.ofNat i)), s6, s7, s8] [])) t := fun t k => pre0 t (by
    show Steps p.tables e below (T0.setTop (mkF m 155 #[.val (.ref ax), .val (.ref ix), .val (.int (Int32.ofNat cnt)), .val (.int (Int32.ofNat sz)), .val (.int (Int32.ofNat cap)), .val (.int (Int32.ofNat i)), s6, s7, s8] [])) _
    refine XS.iload X0.here hx rfl (hb hby d1_155) rfl ?_
    refine XS.iloadN X0.here hx rfl (hb hby d1_157) rfl ?_
    exact k)
  have hb1 : (Int32.ofNat i) < (Int32.ofNat cnt) := n_lt hi hbd
  have pre3 : ∀ t, Steps p.tables e below (T0.setTop (mkF m 162 #[.val (.ref ax), .val (.ref ix), .val (.int (Int32.ofNat cnt)), .val (.int (Int32.ofNat sz)), .val (.int (Int32.ofNat cap)), .val (.int (Int32.ofNat i)), s6, s7, s8] [(.ref ax)])) t → Steps p.tables e below (T0.setTop (mkF m 155 #[.val (.ref ax), .val (.ref ix), .val (.int (Int32.ofNat cnt)), .val (.int (Int32.ofNat sz)), .val (.int (Int32.ofNat cap)), .val (.int (Int32.ofNat i)), s6, s7, s8] [])) t := fun t k => pre2 t (by
    show Steps p.tables e below (T0.setTop (mkF m 158 #[.val (.ref ax), .val (.ref ix), .val (.int (Int32.ofNat cnt)), .val (.int (Int32.ofNat sz)), .val (.int (Int32.ofNat cap)), .val (.int (Int32.ofNat i)), s6, s7, s8] [(.int (Int32.ofNat cnt)), (.int (Int32.ofNat i))])) _
    refine XS.icmpNo X0.here hx rfl (hb hby d1_158) rfl (tlt hb1).2.1 ?_
    refine XS.aloadN X0.here hx rfl (hb hby d1_161) rfl rfl ?_
    exact k)
  obtain ⟨T4, X4, e4, st4⟩ := gGet X0 hx hZ hown (host := "") (Or.inl (hw _ (List.mem_of_getElem? (i := 30) rfl))) e0 R0 0 3 rfl rfl (g := (mkF m 162 #[.val (.ref ax), .val (.ref ix), .val (.int (Int32.ofNat cnt)), .val (.int (Int32.ofNat sz)), .val (.int (Int32.ofNat cap)), .val (.int (Int32.ofNat i)), s6, s7, s8] [(.ref ax)])) rfl rfl (hb hby d1_162)
  have pre5 : ∀ t, Steps p.tables e below (T4.setTop (mkF m 165 #[.val (.ref ax), .val (.ref ix), .val (.int (Int32.ofNat cnt)), .val (.int (Int32.ofNat sz)), .val (.int (Int32.ofNat cap)), .val (.int (Int32.ofNat i)), s6, s7, s8] [(.ref b4)])) t → Steps p.tables e below (T0.setTop (mkF m 155 #[.val (.ref ax), .val (.ref ix), .val (.int (Int32.ofNat cnt)), .val (.int (Int32.ofNat sz)), .val (.int (Int32.ofNat cap)), .val (.int (Int32.ofNat i)), s6, s7, s8] [])) t := fun t k => pre3 t (st4 t k)
  have pre7 : ∀ t, Steps p.tables e below (T4.setTop (mkF m 169 #[.val (.ref ax), .val (.ref ix), .val (.int (Int32.ofNat cnt)), .val (.int (Int32.ofNat sz)), .val (.int (Int32.ofNat cap)), .val (.int (Int32.ofNat i)), s6, s7, s8] [(.int (Int32.ofNat i)), (.int (Int32.ofNat i)), (.ref b4)])) t → Steps p.tables e below (T0.setTop (mkF m 155 #[.val (.ref ax), .val (.ref ix), .val (.int (Int32.ofNat cnt)), .val (.int (Int32.ofNat sz)), .val (.int (Int32.ofNat cap)), .val (.int (Int32.ofNat i)), s6, s7, s8] [])) t := fun t k => pre5 t (by
    show Steps p.tables e below (T4.setTop (mkF m 165 #[.val (.ref ax), .val (.ref ix), .val (.int (Int32.ofNat cnt)), .val (.int (Int32.ofNat sz)), .val (.int (Int32.ofNat cap)), .val (.int (Int32.ofNat i)), s6, s7, s8] [(.ref b4)])) _
    refine XS.iload X4.here hx rfl (hb hby d1_165) rfl ?_
    refine XS.iload X4.here hx rfl (hb hby d1_167) rfl ?_
    exact k)
  have hb6 : (Int32.ofNat i) = (0 : Int32) := by rw [hz]; rfl
  have pre8 : ∀ t, Steps p.tables e below (T4.setTop (mkF m 185 #[.val (.ref ax), .val (.ref ix), .val (.int (Int32.ofNat cnt)), .val (.int (Int32.ofNat sz)), .val (.int (Int32.ofNat cap)), .val (.int (Int32.ofNat i)), s6, s7, s8] [(.int (0 : Int32)), (.int (Int32.ofNat i)), (.ref b4)])) t → Steps p.tables e below (T0.setTop (mkF m 155 #[.val (.ref ax), .val (.ref ix), .val (.int (Int32.ofNat cnt)), .val (.int (Int32.ofNat sz)), .val (.int (Int32.ofNat cap)), .val (.int (Int32.ofNat i)), s6, s7, s8] [])) t := fun t k => pre7 t (by
    show Steps p.tables e below (T4.setTop (mkF m 169 #[.val (.ref ax), .val (.ref ix), .val (.int (Int32.ofNat cnt)), .val (.int (Int32.ofNat sz)), .val (.int (Int32.ofNat cap)), .val (.int (Int32.ofNat i)), s6, s7, s8] [(.int (Int32.ofNat i)), (.int (Int32.ofNat i)), (.ref b4)])) _
    refine XS.ifNo X4.here hx rfl (hb hby d1_169) rfl ((if0 _ _).trans (teq hb6).2) ?_
    refine XS.iconst X4.here hx rfl (hb hby d1_172) ?_
    refine XS.goto X4.here hx rfl (pc0 := 173) (pc' := 185) rfl (hb hby d1_173) (by decide) (by decide) ?_
    exact k)
  obtain ⟨T9, h9, ls9, X9, e9, N9, R9, st9⟩ := gIst X4 hx hZ e4 N0 R0 1 rfl (j := (Int32.ofNat i)) (n_nn hsb185) (i) (n_ix hsb185) (nl_lt hsn185) (g := (mkF m 185 #[.val (.ref ax), .val (.ref ix), .val (.int (Int32.ofNat cnt)), .val (.int (Int32.ofNat sz)), .val (.int (Int32.ofNat cap)), .val (.int (Int32.ofNat i)), s6, s7, s8] [(.int (0 : Int32)), (.int (Int32.ofNat i)), (.ref b4)])) rfl rfl (hb hby d1_185)
  replace R9 : Rep Z n0 h9 ((ax, Obj "com/example/witgen/witgen/regex/Partition" [("elements", "[I", (.ref b1)), ("location", "[I", (.ref b2)), ("blockOf", "[I", (.ref b3)), ("start", "[I", (.ref b4)), ("end", "[I", (.ref b5)), ("marked", "[I", (.ref b6)), ("touched", "[I", (.ref b7)), ("blocks", "I", (.int (Int32.ofNat cnt))), ("touchedCount", "I", (.int (0 : Int32)))]) :: (b4, Ar .int (nl (st.set i 0))) :: (b5, Ar .int (nl en)) :: Rst) := by rw [← nl_set st i 0]; exact R9
  have pre10 : ∀ t, Steps p.tables e below (T9.setTop (mkF m 186 #[.val (.ref ax), .val (.ref ix), .val (.int (Int32.ofNat cnt)), .val (.int (Int32.ofNat sz)), .val (.int (Int32.ofNat cap)), .val (.int (Int32.ofNat i)), s6, s7, s8] [])) t → Steps p.tables e below (T0.setTop (mkF m 155 #[.val (.ref ax), .val (.ref ix), .val (.int (Int32.ofNat cnt)), .val (.int (Int32.ofNat sz)), .val (.int (Int32.ofNat cap)), .val (.int (Int32.ofNat i)), s6, s7, s8] [])) t := fun t k => pre8 t (st9 t k)
  have pre11 : ∀ t, Steps p.tables e below (T9.setTop (mkF m 155 #[.val (.ref ax), .val (.ref ix), .val (.int (Int32.ofNat cnt)), .val (.int (Int32.ofNat sz)), .val (.int (Int32.ofNat cap)), .val (.int (Int32.ofNat (i + 1))), s6, s7, s8] [])) t → Steps p.tables e below (T0.setTop (mkF m 155 #[.val (.ref ax), .val (.ref ix), .val (.int (Int32.ofNat cnt)), .val (.int (Int32.ofNat sz)), .val (.int (Int32.ofNat cap)), .val (.int (Int32.ofNat i)), s6, s7, s8] [])) t := fun t k => pre10 t (by
    show Steps p.tables e below (T9.setTop (mkF m 186 #[.val (.ref ax), .val (.ref ix), .val (.int (Int32.ofNat cnt)), .val (.int (Int32.ofNat sz)), .val (.int (Int32.ofNat cap)), .val (.int (Int32.ofNat i)), s6, s7, s8] [])) _
    refine XS.iinc X9.here hx rfl (hb hby d1_186) rfl (l' := #[.val (.ref ax), .val (.ref ix), .val (.int (Int32.ofNat cnt)), .val (.int (Int32.ofNat sz)), .val (.int (Int32.ofNat cap)), .val (.int ((Int32.ofNat i) + (1 : Int32))), s6, s7, s8]) rfl ?_
    change Steps p.tables e below (T9.setTop (mkF m 189 #[.val (.ref ax), .val (.ref ix), .val (.int (Int32.ofNat cnt)), .val (.int (Int32.ofNat sz)), .val (.int (Int32.ofNat cap)), .val (.int ((Int32.ofNat i) + (1 : Int32))), s6, s7, s8] [])) _
    rw [n_one]
    show Steps p.tables e below (T9.setTop (mkF m 189 #[.val (.ref ax), .val (.ref ix), .val (.int (Int32.ofNat cnt)), .val (.int (Int32.ofNat sz)), .val (.int (Int32.ofNat cap)), .val (.int (Int32.ofNat (i + 1))), s6, s7, s8] [])) _
    refine XS.goto X9.here hx rfl (pc0 := 189) (pc' := 155) rfl (hb hby d1_189) (by decide) (by decide) ?_
    exact k)
  exact ⟨T9, h9, _, X9, e9, N9, R9, pre11⟩
theorem d1_176 : decode prog_15_method_1_code 176 = .ok (.aload_n 0, 1) := by decide +kernel
theorem d1_177 : decode prog_15_method_1_code 177 = .ok (.getfield 33, 3) := by decide +kernel
theorem d1_180 : decode prog_15_method_1_code 180 = .ok (.iload 5, 2) := by decide +kernel
theorem d1_182 : decode prog_15_method_1_code 182 = .ok (.iconst 1, 1) := by decide +kernel
theorem d1_183 : decode prog_15_method_1_code 183 = .ok (.isub, 1) := by decide +kernel
theorem d1_184 : decode prog_15_method_1_code 184 = .ok (.iaload, 1) := by decide +kernel
set_option maxRecDepth 65536 in
set_option maxHeartbeats 40000000 in
theorem l3_turn {p : Program} {l : Launch} {e : Env} {R : Room} {s : State} {m : MethodId} {args : Array Value} {below : List Frame} {meth : Method} {c : Code} {T0 : State} {locs : List Loc} {cells slots : Nat} {Z : State} {a0 : Array Value} {h0 : Heap} {n0 : Nat} {Rst : RL} (ax : Addr) (ix : Addr) (b1 : Addr) (b2 : Addr) (b3 : Addr) (b4 : Addr) (b5 : Addr) (b6 : Addr) (b7 : Addr) (cnt : Nat) (sz : Nat) (cap : Nat) (i : Nat) (s6 : Slot) (s7 : Slot) (s8 : Slot) (st : List Nat) (en : List Nat)
    (X0 : Stand p l e R s m args below meth c T0 locs cells slots) (hx : p.tables.exec = Jvm.exec) (hZ : Z.Warmed39 s.vm) (hw : ∀ d ∈ tables_1, d.before a0 Z = true) (hby : c.code = prog_15_method_1_code) (hml : c.maxLocals = 9) (hown : s.vm.findClass "com/example/witgen/witgen/regex/Partition" = some m.cls) (e0 : T0.heap = h0) (N0 : Fr n0 locs) (R0 : Rep Z n0 h0 ((ax, Obj "com/example/witgen/witgen/regex/Partition" [("elements", "[I", (.ref b1)), ("location", "[I", (.ref b2)), ("blockOf", "[I", (.ref b3)), ("start", "[I", (.ref b4)), ("end", "[I", (.ref b5)), ("marked", "[I", (.ref b6)), ("touched", "[I", (.ref b7)), ("blocks", "I", (.int (Int32.ofNat cnt))), ("touchedCount", "I", (.int (0 : Int32)))]) :: (b4, Ar .int (nl st)) :: (b5, Ar .int (nl en)) :: Rst)) (hi : i < cnt) (hbd : cnt < 1000) (hz : ¬ i = 0) (hpr183 : 1 ≤ i) (hin184 : (i - 1) < en.length) (hbd184 : (i - 1) < 1000) (hsn185 : i < st.length) (hsb185 : i < 1000) :
    ∃ (T' : State) (h' : Heap) (locs' : List Loc), Stand p l e R s m args below meth c T' locs' cells slots ∧ T'.heap = h' ∧ Fr n0 locs' ∧ Rep Z n0 h' ((ax, Obj "com/example/witgen/witgen/regex/Partition" [("elements", "[I", (.ref b1)), ("location", "[I", (.ref b2)), ("blockOf", "[I", (.ref b3)), ("start", "[I", (.ref b4)), ("end", "[I", (.ref b5)), ("marked", "[I", (.ref b6)), ("touched", "[I", (.ref b7)), ("blocks", "I", (.int (Int32.ofNat cnt))), ("touchedCount", "I", (.int (0 : Int32)))]) :: (b4, Ar .int (nl (st.set i (en.getD (i - 1) 0)))) :: (b5, Ar .int (nl en)) :: Rst) ∧ ∀ t, Steps p.tables e below (T'.setTop (mkF m 155 #[.val (.ref ax), .val (.ref ix), .val (.int (Int32.ofNat cnt)), .val (.int (Int32.ofNat sz)), .val (.int (Int32.ofNat cap)), .val (.int (Int32.ofNat (i + 1))), s6, s7, s8] [])) t → Steps p.tables e below (T0.setTop (mkF m 155 #[.val (.ref ax), .val (.ref ix), .val (.int (Int32.ofNat cnt)), .val (.int (Int32.ofNat sz)), .val (.int (Int32.ofNat cap)), .val (.int (Int32.ofNat i)), s6, s7, s8] [])) t := by
  have pre0 : ∀ t, Steps p.tables e below (T0.setTop (mkF m 155 #[.val (.ref ax), .val (.ref ix), .val (.int (Int32.ofNat cnt)), .val (.int (Int32.ofNat sz)), .val (.int (Int32.ofNat cap)), .val (.int (Int32.ofNat i)), s6, s7, s8] [])) t → Steps p.tables e below (T0.setTop (mkF m 155 #[.val (.ref ax), .val (.ref ix), .val (.int (Int32.ofNat cnt)), .val (.int (Int32.ofNat sz)), .val (.int (Int32.ofNat cap)), .val (.int (Int32.ofNat i)), s6, s7, s8] [])) t := fun t k => k
  have pre2 : ∀ t, Steps p.tables e below (T0.setTop (mkF m 158 #[.val (.ref ax), .val (.ref ix), .val (.int (Int32.ofNat cnt)), .val (.int (Int32.ofNat sz)), .val (.int (Int32.ofNat cap)), .val (.int (Int32.ofNat i)), s6, s7, s8] [(.int (Int32.ofNat cnt)), (.int (Int32.ofNat i))])) t → Steps p.tables e below (T0.setTop (mkF m 155 #[.val (.ref ax), .val (.ref ix), .val (.int (Int32.ofNat cnt)), .val (.int (Int32.ofNat sz)), .val (.int (Int32.ofNat cap)), .val (.int (Int32.ofNat i)), s6, s7, s8] [])) t := fun t k => pre0 t (by
    show Steps p.tables e below (T0.setTop (mkF m 155 #[.val (.ref ax), .val (.ref ix), .val (.int (Int32.ofNat cnt)), .val (.int (Int32.ofNat sz)), .val (.int (Int32.ofNat cap)), .val (.int (Int32.ofNat i)), s6, s7, s8] [])) _
    refine XS.iload X0.here hx rfl (hb hby d1_155) rfl ?_
    refine XS.iloadN X0.here hx rfl (hb hby d1_157) rfl ?_
    exact k)
  have hb1 : (Int32.ofNat i) < (Int32.ofNat cnt) := n_lt hi hbd
  have pre3 : ∀ t, Steps p.tables e below (T0.setTop (mkF m 162 #[.val (.ref ax), .val (.ref ix), .val (.int (Int32.ofNat cnt)), .val (.int (Int32.ofNat sz)), .val (.int (Int32.ofNat cap)), .val (.int (Int32.ofNat i)), s6, s7, s8] [(.ref ax)])) t → Steps p.tables e below (T0.setTop (mkF m 155 #[.val (.ref ax), .val (.ref ix), .val (.int (Int32.ofNat cnt)), .val (.int (Int32.ofNat sz)), .val (.int (Int32.ofNat cap)), .val (.int (Int32.ofNat i)), s6, s7, s8] [])) t := fun t k => pre2 t (by
    show Steps p.tables e below (T0.setTop (mkF m 158 #[.val (.ref ax), .val (.ref ix), .val (.int (Int32.ofNat cnt)), .val (.int (Int32.ofNat sz)), .val (.int (Int32.ofNat cap)), .val (.int (Int32.ofNat i)), s6, s7, s8] [(.int (Int32.ofNat cnt)), (.int (Int32.ofNat i))])) _
    refine XS.icmpNo X0.here hx rfl (hb hby d1_158) rfl (tlt hb1).2.1 ?_
    refine XS.aloadN X0.here hx rfl (hb hby d1_161) rfl rfl ?_
    exact k)
  obtain ⟨T4, X4, e4, st4⟩ := gGet X0 hx hZ hown (host := "") (Or.inl (hw _ (List.mem_of_getElem? (i := 30) rfl))) e0 R0 0 3 rfl rfl (g := (mkF m 162 #[.val (.ref ax), .val (.ref ix), .val (.int (Int32.ofNat cnt)), .val (.int (Int32.ofNat sz)), .val (.int (Int32.ofNat cap)), .val (.int (Int32.ofNat i)), s6, s7, s8] [(.ref ax)])) rfl rfl (hb hby d1_162)
  have pre5 : ∀ t, Steps p.tables e below (T4.setTop (mkF m 165 #[.val (.ref ax), .val (.ref ix), .val (.int (Int32.ofNat cnt)), .val (.int (Int32.ofNat sz)), .val (.int (Int32.ofNat cap)), .val (.int (Int32.ofNat i)), s6, s7, s8] [(.ref b4)])) t → Steps p.tables e below (T0.setTop (mkF m 155 #[.val (.ref ax), .val (.ref ix), .val (.int (Int32.ofNat cnt)), .val (.int (Int32.ofNat sz)), .val (.int (Int32.ofNat cap)), .val (.int (Int32.ofNat i)), s6, s7, s8] [])) t := fun t k => pre3 t (st4 t k)
  have pre7 : ∀ t, Steps p.tables e below (T4.setTop (mkF m 169 #[.val (.ref ax), .val (.ref ix), .val (.int (Int32.ofNat cnt)), .val (.int (Int32.ofNat sz)), .val (.int (Int32.ofNat cap)), .val (.int (Int32.ofNat i)), s6, s7, s8] [(.int (Int32.ofNat i)), (.int (Int32.ofNat i)), (.ref b4)])) t → Steps p.tables e below (T0.setTop (mkF m 155 #[.val (.ref ax), .val (.ref ix), .val (.int (Int32.ofNat cnt)), .val (.int (Int32.ofNat sz)), .val (.int (Int32.ofNat cap)), .val (.int (Int32.ofNat i)), s6, s7, s8] [])) t := fun t k => pre5 t (by
    show Steps p.tables e below (T4.setTop (mkF m 165 #[.val (.ref ax), .val (.ref ix), .val (.int (Int32.ofNat cnt)), .val (.int (Int32.ofNat sz)), .val (.int (Int32.ofNat cap)), .val (.int (Int32.ofNat i)), s6, s7, s8] [(.ref b4)])) _
    refine XS.iload X4.here hx rfl (hb hby d1_165) rfl ?_
    refine XS.iload X4.here hx rfl (hb hby d1_167) rfl ?_
    exact k)
  have hb6 : ¬ ((Int32.ofNat i) = (0 : Int32)) := fun q => hz (n_inj (n := 0) q (by omega) (by decide))
  have pre8 : ∀ t, Steps p.tables e below (T4.setTop (mkF m 177 #[.val (.ref ax), .val (.ref ix), .val (.int (Int32.ofNat cnt)), .val (.int (Int32.ofNat sz)), .val (.int (Int32.ofNat cap)), .val (.int (Int32.ofNat i)), s6, s7, s8] [(.ref ax), (.int (Int32.ofNat i)), (.ref b4)])) t → Steps p.tables e below (T0.setTop (mkF m 155 #[.val (.ref ax), .val (.ref ix), .val (.int (Int32.ofNat cnt)), .val (.int (Int32.ofNat sz)), .val (.int (Int32.ofNat cap)), .val (.int (Int32.ofNat i)), s6, s7, s8] [])) t := fun t k => pre7 t (by
    show Steps p.tables e below (T4.setTop (mkF m 169 #[.val (.ref ax), .val (.ref ix), .val (.int (Int32.ofNat cnt)), .val (.int (Int32.ofNat sz)), .val (.int (Int32.ofNat cap)), .val (.int (Int32.ofNat i)), s6, s7, s8] [(.int (Int32.ofNat i)), (.int (Int32.ofNat i)), (.ref b4)])) _
    refine XS.ifYes X4.here hx rfl (pc0 := 169) (pc' := 176) rfl (hb hby d1_169) rfl ((if0 _ _).trans (feq hb6).2) (by decide) (by decide) ?_
    refine XS.aloadN X4.here hx rfl (hb hby d1_176) rfl rfl ?_
    exact k)
  obtain ⟨T9, X9, e9, st9⟩ := gGet X4 hx hZ hown (host := "") (Or.inl (hw _ (List.mem_of_getElem? (i := 32) rfl))) e4 R0 0 4 rfl rfl (g := (mkF m 177 #[.val (.ref ax), .val (.ref ix), .val (.int (Int32.ofNat cnt)), .val (.int (Int32.ofNat sz)), .val (.int (Int32.ofNat cap)), .val (.int (Int32.ofNat i)), s6, s7, s8] [(.ref ax), (.int (Int32.ofNat i)), (.ref b4)])) rfl rfl (hb hby d1_177)
  have pre10 : ∀ t, Steps p.tables e below (T9.setTop (mkF m 180 #[.val (.ref ax), .val (.ref ix), .val (.int (Int32.ofNat cnt)), .val (.int (Int32.ofNat sz)), .val (.int (Int32.ofNat cap)), .val (.int (Int32.ofNat i)), s6, s7, s8] [(.ref b5), (.int (Int32.ofNat i)), (.ref b4)])) t → Steps p.tables e below (T0.setTop (mkF m 155 #[.val (.ref ax), .val (.ref ix), .val (.int (Int32.ofNat cnt)), .val (.int (Int32.ofNat sz)), .val (.int (Int32.ofNat cap)), .val (.int (Int32.ofNat i)), s6, s7, s8] [])) t := fun t k => pre8 t (st9 t k)
  have pre11 : ∀ t, Steps p.tables e below (T9.setTop (mkF m 185 #[.val (.ref ax), .val (.ref ix), .val (.int (Int32.ofNat cnt)), .val (.int (Int32.ofNat sz)), .val (.int (Int32.ofNat cap)), .val (.int (Int32.ofNat i)), s6, s7, s8] [(.int (Int32.ofNat (en.getD (i - 1) 0))), (.int (Int32.ofNat i)), (.ref b4)])) t → Steps p.tables e below (T0.setTop (mkF m 155 #[.val (.ref ax), .val (.ref ix), .val (.int (Int32.ofNat cnt)), .val (.int (Int32.ofNat sz)), .val (.int (Int32.ofNat cap)), .val (.int (Int32.ofNat i)), s6, s7, s8] [])) t := fun t k => pre10 t (by
    show Steps p.tables e below (T9.setTop (mkF m 180 #[.val (.ref ax), .val (.ref ix), .val (.int (Int32.ofNat cnt)), .val (.int (Int32.ofNat sz)), .val (.int (Int32.ofNat cap)), .val (.int (Int32.ofNat i)), s6, s7, s8] [(.ref b5), (.int (Int32.ofNat i)), (.ref b4)])) _
    refine XS.iload X9.here hx rfl (hb hby d1_180) rfl ?_
    refine XS.iconst X9.here hx rfl (hb hby d1_182) ?_
    refine XS.isub X9.here hx rfl (hb hby d1_183) rfl ?_
    change Steps p.tables e below (T9.setTop (mkF m 184 #[.val (.ref ax), .val (.ref ix), .val (.int (Int32.ofNat cnt)), .val (.int (Int32.ofNat sz)), .val (.int (Int32.ofNat cap)), .val (.int (Int32.ofNat i)), s6, s7, s8] [(.int ((Int32.ofNat i) - (1 : Int32))), (.ref b5), (.int (Int32.ofNat i)), (.ref b4)])) _
    rw [n_pred hpr183]
    show Steps p.tables e below (T9.setTop (mkF m 184 #[.val (.ref ax), .val (.ref ix), .val (.int (Int32.ofNat cnt)), .val (.int (Int32.ofNat sz)), .val (.int (Int32.ofNat cap)), .val (.int (Int32.ofNat i)), s6, s7, s8] [(.int (Int32.ofNat (i - 1))), (.ref b5), (.int (Int32.ofNat i)), (.ref b4)])) _
    refine gIald X9 hx hZ e9 R0 2 rfl (j := (Int32.ofNat (i - 1))) (v := (.int (Int32.ofNat (en.getD (i - 1) 0)))) (n_nn hbd184) (nl_at hin184 hbd184) (g := (mkF m 184 #[.val (.ref ax), .val (.ref ix), .val (.int (Int32.ofNat cnt)), .val (.int (Int32.ofNat sz)), .val (.int (Int32.ofNat cap)), .val (.int (Int32.ofNat i)), s6, s7, s8] [(.int (Int32.ofNat (i - 1))), (.ref b5), (.int (Int32.ofNat i)), (.ref b4)])) rfl rfl (hb hby d1_184) _ ?_
    exact k)
  obtain ⟨T12, h12, ls12, X12, e12, N12, R12, st12⟩ := gIst X9 hx hZ e9 N0 R0 1 rfl (j := (Int32.ofNat i)) (n_nn hsb185) (i) (n_ix hsb185) (nl_lt hsn185) (g := (mkF m 185 #[.val (.ref ax), .val (.ref ix), .val (.int (Int32.ofNat cnt)), .val (.int (Int32.ofNat sz)), .val (.int (Int32.ofNat cap)), .val (.int (Int32.ofNat i)), s6, s7, s8] [(.int (Int32.ofNat (en.getD (i - 1) 0))), (.int (Int32.ofNat i)), (.ref b4)])) rfl rfl (hb hby d1_185)
  replace R12 : Rep Z n0 h12 ((ax, Obj "com/example/witgen/witgen/regex/Partition" [("elements", "[I", (.ref b1)), ("location", "[I", (.ref b2)), ("blockOf", "[I", (.ref b3)), ("start", "[I", (.ref b4)), ("end", "[I", (.ref b5)), ("marked", "[I", (.ref b6)), ("touched", "[I", (.ref b7)), ("blocks", "I", (.int (Int32.ofNat cnt))), ("touchedCount", "I", (.int (0 : Int32)))]) :: (b4, Ar .int (nl (st.set i (en.getD (i - 1) 0)))) :: (b5, Ar .int (nl en)) :: Rst) := by rw [← nl_set st i (en.getD (i - 1) 0)]; exact R12
  have pre13 : ∀ t, Steps p.tables e below (T12.setTop (mkF m 186 #[.val (.ref ax), .val (.ref ix), .val (.int (Int32.ofNat cnt)), .val (.int (Int32.ofNat sz)), .val (.int (Int32.ofNat cap)), .val (.int (Int32.ofNat i)), s6, s7, s8] [])) t → Steps p.tables e below (T0.setTop (mkF m 155 #[.val (.ref ax), .val (.ref ix), .val (.int (Int32.ofNat cnt)), .val (.int (Int32.ofNat sz)), .val (.int (Int32.ofNat cap)), .val (.int (Int32.ofNat i)), s6, s7, s8] [])) t := fun t k => pre11 t (st12 t k)
  have pre14 : ∀ t, Steps p.tables e below (T12.setTop (mkF m 155 #[.val (.ref ax), .val (.ref ix), .val (.int (Int32.ofNat cnt)), .val (.int (Int32.ofNat sz)), .val (.int (Int32.ofNat cap)), .val (.int (Int32.ofNat (i + 1))), s6, s7, s8] [])) t → Steps p.tables e below (T0.setTop (mkF m 155 #[.val (.ref ax), .val (.ref ix), .val (.int (Int32.ofNat cnt)), .val (.int (Int32.ofNat sz)), .val (.int (Int32.ofNat cap)), .val (.int (Int32.ofNat i)), s6, s7, s8] [])) t := fun t k => pre13 t (by
    show Steps p.tables e below (T12.setTop (mkF m 186 #[.val (.ref ax), .val (.ref ix), .val (.int (Int32.ofNat cnt)), .val (.int (Int32.ofNat sz)), .val (.int (Int32.ofNat cap)), .val (.int (Int32.ofNat i)), s6, s7, s8] [])) _
    refine XS.iinc X12.here hx rfl (hb hby d1_186) rfl (l' := #[.val (.ref ax), .val (.ref ix), .val (.int (Int32.ofNat cnt)), .val (.int (Int32.ofNat sz)), .val (.int (Int32.ofNat cap)), .val (.int ((Int32.ofNat i) + (1 : Int32))), s6, s7, s8]) rfl ?_
    change Steps p.tables e below (T12.setTop (mkF m 189 #[.val (.ref ax), .val (.ref ix), .val (.int (Int32.ofNat cnt)), .val (.int (Int32.ofNat sz)), .val (.int (Int32.ofNat cap)), .val (.int ((Int32.ofNat i) + (1 : Int32))), s6, s7, s8] [])) _
    rw [n_one]
    show Steps p.tables e below (T12.setTop (mkF m 189 #[.val (.ref ax), .val (.ref ix), .val (.int (Int32.ofNat cnt)), .val (.int (Int32.ofNat sz)), .val (.int (Int32.ofNat cap)), .val (.int (Int32.ofNat (i + 1))), s6, s7, s8] [])) _
    refine XS.goto X12.here hx rfl (pc0 := 189) (pc' := 155) rfl (hb hby d1_189) (by decide) (by decide) ?_
    exact k)
  exact ⟨T12, h12, _, X12, e12, N12, R12, pre14⟩
set_option maxRecDepth 65536 in
set_option maxHeartbeats 40000000 in
theorem l3_out {p : Program} {l : Launch} {e : Env} {R : Room} {s : State} {m : MethodId} {args : Array Value} {below : List Frame} {meth : Method} {c : Code} {T0 : State} {locs : List Loc} {cells slots : Nat} {Z : State} {a0 : Array Value} {h0 : Heap} {n0 : Nat} {Rst : RL} (ax : Addr) (ix : Addr) (b1 : Addr) (b2 : Addr) (b3 : Addr) (b4 : Addr) (b5 : Addr) (b6 : Addr) (b7 : Addr) (cnt : Nat) (sz : Nat) (cap : Nat) (i : Nat) (s6 : Slot) (s7 : Slot) (s8 : Slot) (st : List Nat) (en : List Nat)
    (X0 : Stand p l e R s m args below meth c T0 locs cells slots) (hx : p.tables.exec = Jvm.exec) (hZ : Z.Warmed39 s.vm) (hw : ∀ d ∈ tables_1, d.before a0 Z = true) (hby : c.code = prog_15_method_1_code) (hml : c.maxLocals = 9) (hown : s.vm.findClass "com/example/witgen/witgen/regex/Partition" = some m.cls) (e0 : T0.heap = h0) (N0 : Fr n0 locs) (R0 : Rep Z n0 h0 ((ax, Obj "com/example/witgen/witgen/regex/Partition" [("elements", "[I", (.ref b1)), ("location", "[I", (.ref b2)), ("blockOf", "[I", (.ref b3)), ("start", "[I", (.ref b4)), ("end", "[I", (.ref b5)), ("marked", "[I", (.ref b6)), ("touched", "[I", (.ref b7)), ("blocks", "I", (.int (Int32.ofNat cnt))), ("touchedCount", "I", (.int (0 : Int32)))]) :: (b4, Ar .int (nl st)) :: (b5, Ar .int (nl en)) :: Rst)) (hi : cnt ≤ i) (hbd : i < 1000) :
    ∃ (T' : State) (h' : Heap) (locs' : List Loc), Stand p l e R s m args below meth c T' locs' cells slots ∧ T'.heap = h' ∧ Fr n0 locs' ∧ Rep Z n0 h' ((ax, Obj "com/example/witgen/witgen/regex/Partition" [("elements", "[I", (.ref b1)), ("location", "[I", (.ref b2)), ("blockOf", "[I", (.ref b3)), ("start", "[I", (.ref b4)), ("end", "[I", (.ref b5)), ("marked", "[I", (.ref b6)), ("touched", "[I", (.ref b7)), ("blocks", "I", (.int (Int32.ofNat cnt))), ("touchedCount", "I", (.int (0 : Int32)))]) :: (b4, Ar .int (nl st)) :: (b5, Ar .int (nl en)) :: Rst) ∧ ∀ t, Steps p.tables e below (T'.setTop (mkF m 192 #[.val (.ref ax), .val (.ref ix), .val (.int (Int32.ofNat cnt)), .val (.int (Int32.ofNat sz)), .val (.int (Int32.ofNat cap)), .val (.int (Int32.ofNat i)), s6, s7, s8] [])) t → Steps p.tables e below (T0.setTop (mkF m 155 #[.val (.ref ax), .val (.ref ix), .val (.int (Int32.ofNat cnt)), .val (.int (Int32.ofNat sz)), .val (.int (Int32.ofNat cap)), .val (.int (Int32.ofNat i)), s6, s7, s8] [])) t := by
  have pre0 : ∀ t, Steps p.tables e below (T0.setTop (mkF m 155 #[.val (.ref ax), .val (.ref ix), .val (.int (Int32.ofNat cnt)), .val (.int (Int32.ofNat sz)), .val (.int (Int32.ofNat cap)), .val (.int (Int32.ofNat i)), s6, s7, s8] [])) t → Steps p.tables e below (T0.setTop (mkF m 155 #[.val (.ref ax), .val (.ref ix), .val (.int (Int32.ofNat cnt)), .val (.int (Int32.ofNat sz)), .val (.int (Int32.ofNat cap)), .val (.int (Int32.ofNat i)), s6, s7, s8] [])) t := fun t k => k
  have pre2 : ∀ t, Steps p.tables e below (T0.setTop (mkF m 158 #[.val (.ref ax), .val (.ref ix), .val (.int (Int32.ofNat cnt)), .val (.int (Int32.ofNat sz)), .val (.int (Int32.ofNat cap)), .val (.int (Int32.ofNat i)), s6, s7, s8] [(.int (Int32.ofNat cnt)), (.int (Int32.ofNat i))])) t → Steps p.tables e below (T0.setTop (mkF m 155 #[.val (.ref ax), .val (.ref ix), .val (.int (Int32.ofNat cnt)), .val (.int (Int32.ofNat sz)), .val (.int (Int32.ofNat cap)), .val (.int (Int32.ofNat i)), s6, s7, s8] [])) t := fun t k => pre0 t (by
    show Steps p.tables e below (T0.setTop (mkF m 155 #[.val (.ref ax), .val (.ref ix), .val (.int (Int32.ofNat cnt)), .val (.int (Int32.ofNat sz)), .val (.int (Int32.ofNat cap)), .val (.int (Int32.ofNat i)), s6, s7, s8] [])) _
    refine XS.iload X0.here hx rfl (hb hby d1_155) rfl ?_
    refine XS.iloadN X0.here hx rfl (hb hby d1_157) rfl ?_
    exact k)
  have hb1 : ¬ ((Int32.ofNat i) < (Int32.ofNat cnt)) := n_nlt hi hbd
  have pre3 : ∀ t, Steps p.tables e below (T0.setTop (mkF m 192 #[.val (.ref ax), .val (.ref ix), .val (.int (Int32.ofNat cnt)), .val (.int (Int32.ofNat sz)), .val (.int (Int32.ofNat cap)), .val (.int (Int32.ofNat i)), s6, s7, s8] [])) t → Steps p.tables e below (T0.setTop (mkF m 155 #[.val (.ref ax), .val (.ref ix), .val (.int (Int32.ofNat cnt)), .val (.int (Int32.ofNat sz)), .val (.int (Int32.ofNat cap)), .val (.int (Int32.ofNat i)), s6, s7, s8] [])) t := fun t k => pre2 t (by
    show Steps p.tables e below (T0.setTop (mkF m 158 #[.val (.ref ax), .val (.ref ix), .val (.int (Int32.ofNat cnt)), .val (.int (Int32.ofNat sz)), .val (.int (Int32.ofNat cap)), .val (.int (Int32.ofNat i)), s6, s7, s8] [(.int (Int32.ofNat cnt)), (.int (Int32.ofNat i))])) _
    refine XS.icmpYes X0.here hx rfl (pc0 := 158) (pc' := 192) rfl (hb hby d1_158) rfl (flt hb1).2.1 (by decide) (by decide) ?_
    exact k)
  exact ⟨T0, h0, _, X0, e0, N0, R0, pre3⟩
def s3 (en : List Nat) : Nat → Nat → List Nat → List Nat
  | 0, _, st => st
  | k + 1, i, st => s3 en k (i + 1) (st.set i (if i = 0 then 0 else en.getD (i - 1) 0))
def ok3 (en : List Nat) : Nat → Nat → List Nat → Bool
  | 0, _, _ => true
  | k + 1, i, st => decide (i < st.length) && decide (i < 1000) && decide (i - 1 < en.length) && ok3 en k (i + 1) (st.set i (if i = 0 then 0 else en.getD (i - 1) 0))
theorem l3_loop {p : Program} {l : Launch} {e : Env} {R : Room} {s : State} {m : MethodId} {args : Array Value} {below : List Frame} {meth : Method} {c : Code} {cells slots : Nat} {Z : State} {a0 : Array Value} {n0 : Nat} {Rst : RL} (ax ix : Addr) (b1 b2 b3 b4 b5 b6 b7 : Addr) (cnt sz cap : Nat) (s6 s7 s8 : Slot) (en : List Nat) (hbd : cnt < 1000) (hx : p.tables.exec = Jvm.exec) (hZ : Z.Warmed39 s.vm) (hw : ∀ d ∈ tables_1, d.before a0 Z = true) (hby : c.code = prog_15_method_1_code) (hml : c.maxLocals = 9) (hown : s.vm.findClass "com/example/witgen/witgen/regex/Partition" = some m.cls) :
    ∀ (k i : Nat) (st : List Nat) (T0 : State) (locs : List Loc) (h0 : Heap), i + k = cnt → ok3 en k i st = true → Stand p l e R s m args below meth c T0 locs cells slots → T0.heap = h0 → Fr n0 locs → Rep Z n0 h0 ((ax, Obj "com/example/witgen/witgen/regex/Partition" [("elements", "[I", (.ref b1)), ("location", "[I", (.ref b2)), ("blockOf", "[I", (.ref b3)), ("start", "[I", (.ref b4)), ("end", "[I", (.ref b5)), ("marked", "[I", (.ref b6)), ("touched", "[I", (.ref b7)), ("blocks", "I", (.int (Int32.ofNat cnt))), ("touchedCount", "I", (.int (0 : Int32)))]) :: (b4, Ar .int (nl st)) :: (b5, Ar .int (nl en)) :: Rst) →
      ∃ (T' : State) (h' : Heap) (locs' : List Loc), Stand p l e R s m args below meth c T' locs' cells slots ∧ T'.heap = h' ∧ Fr n0 locs' ∧ Rep Z n0 h' ((ax, Obj "com/example/witgen/witgen/regex/Partition" [("elements", "[I", (.ref b1)), ("location", "[I", (.ref b2)), ("blockOf", "[I", (.ref b3)), ("start", "[I", (.ref b4)), ("end", "[I", (.ref b5)), ("marked", "[I", (.ref b6)), ("touched", "[I", (.ref b7)), ("blocks", "I", (.int (Int32.ofNat cnt))), ("touchedCount", "I", (.int (0 : Int32)))]) :: (b4, Ar .int (nl (s3 en k i st))) :: (b5, Ar .int (nl en)) :: Rst) ∧ ∀ t, Steps p.tables e below (T'.setTop (mkF m 192 #[.val (.ref ax), .val (.ref ix), .val (.int (Int32.ofNat cnt)), .val (.int (Int32.ofNat sz)), .val (.int (Int32.ofNat cap)), .val (.int (Int32.ofNat cnt)), s6, s7, s8] [])) t → Steps p.tables e below (T0.setTop (mkF m 155 #[.val (.ref ax), .val (.ref ix), .val (.int (Int32.ofNat cnt)), .val (.int (Int32.ofNat sz)), .val (.int (Int32.ofNat cap)), .val (.int (Int32.ofNat i)), s6, s7, s8] [])) t := by
  intro k
  induction k with
  | zero =>
    intro i st T0 locs h0 hi ok X0 e0 N0 R0
    have hi' : i = cnt := by omega
    subst hi'
    exact l3_out ax ix b1 b2 b3 b4 b5 b6 b7 i sz cap i s6 s7 s8 st en X0 hx hZ hw hby hml hown e0 N0 R0 (Nat.le_refl _) hbd
  | succ k ih =>
    intro i st T0 locs h0 hi ok X0 e0 N0 R0
    simp only [ok3, Bool.and_eq_true, decide_eq_true_eq] at ok
    obtain ⟨⟨⟨a1, a2⟩, a3⟩, a5⟩ := ok
    by_cases hz : i = 0
    · rw [if_pos hz] at a5
      obtain ⟨T1, h1, ls1, X1, e1, N1, R1, st1⟩ := l3_zero ax ix b1 b2 b3 b4 b5 b6 b7 cnt sz cap i s6 s7 s8 st en X0 hx hZ hw hby hml hown e0 N0 R0 (by omega) hbd hz a1 a2
      obtain ⟨T2, h2, ls2, X2, e2, N2, R2, st2⟩ := ih (i + 1) _ T1 ls1 h1 (by omega) a5 X1 e1 N1 R1
      refine ⟨T2, h2, ls2, X2, e2, N2, ?_, fun t q => st1 t (st2 t q)⟩
      rw [s3, if_pos hz]; exact R2
    · rw [if_neg hz] at a5
      obtain ⟨T1, h1, ls1, X1, e1, N1, R1, st1⟩ := l3_turn ax ix b1 b2 b3 b4 b5 b6 b7 cnt sz cap i s6 s7 s8 st en X0 hx hZ hw hby hml hown e0 N0 R0 (by omega) hbd hz (by omega) a3 (by omega) a1 a2
      obtain ⟨T2, h2, ls2, X2, e2, N2, R2, st2⟩ := ih (i + 1) _ T1 ls1 h1 (by omega) a5 X1 e1 N1 R1
      refine ⟨T2, h2, ls2, X2, e2, N2, ?_, fun t q => st1 t (st2 t q)⟩
      rw [s3, if_neg hz]; exact R2
theorem d1_205 : decode prog_15_method_1_code 205 = .ok (.iload 6, 2) := by decide +kernel
theorem d1_207 : decode prog_15_method_1_code 207 = .ok (.iload_n 3, 1) := by decide +kernel
theorem d1_208 : decode prog_15_method_1_code 208 = .ok (.if_icmp .ge 42, 3) := by decide +kernel
theorem d1_211 : decode prog_15_method_1_code 211 = .ok (.aload_n 0, 1) := by decide +kernel
theorem d1_212 : decode prog_15_method_1_code 212 = .ok (.getfield 19, 3) := by decide +kernel
theorem d1_215 : decode prog_15_method_1_code 215 = .ok (.iload 6, 2) := by decide +kernel
theorem d1_217 : decode prog_15_method_1_code 217 = .ok (.aload 5, 2) := by decide +kernel
theorem d1_219 : decode prog_15_method_1_code 219 = .ok (.aload_n 1, 1) := by decide +kernel
theorem d1_220 : decode prog_15_method_1_code 220 = .ok (.iload 6, 2) := by decide +kernel
theorem d1_222 : decode prog_15_method_1_code 222 = .ok (.iaload, 1) := by decide +kernel
theorem d1_223 : decode prog_15_method_1_code 223 = .ok (.dup2, 1) := by decide +kernel
theorem d1_224 : decode prog_15_method_1_code 224 = .ok (.iaload, 1) := by decide +kernel
theorem d1_225 : decode prog_15_method_1_code 225 = .ok (.dup_x2, 1) := by decide +kernel
theorem d1_226 : decode prog_15_method_1_code 226 = .ok (.iconst 1, 1) := by decide +kernel
theorem d1_227 : decode prog_15_method_1_code 227 = .ok (.iadd, 1) := by decide +kernel
theorem d1_228 : decode prog_15_method_1_code 228 = .ok (.iastore, 1) := by decide +kernel
theorem d1_229 : decode prog_15_method_1_code 229 = .ok (.iastore, 1) := by decide +kernel
theorem d1_230 : decode prog_15_method_1_code 230 = .ok (.aload_n 0, 1) := by decide +kernel
theorem d1_231 : decode prog_15_method_1_code 231 = .ok (.getfield 13, 3) := by decide +kernel
theorem d1_234 : decode prog_15_method_1_code 234 = .ok (.aload_n 0, 1) := by decide +kernel
theorem d1_235 : decode prog_15_method_1_code 235 = .ok (.getfield 19, 3) := by decide +kernel
theorem d1_238 : decode prog_15_method_1_code 238 = .ok (.iload 6, 2) := by decide +kernel
theorem d1_240 : decode prog_15_method_1_code 240 = .ok (.iaload, 1) := by decide +kernel
theorem d1_241 : decode prog_15_method_1_code 241 = .ok (.iload 6, 2) := by decide +kernel
theorem d1_243 : decode prog_15_method_1_code 243 = .ok (.iastore, 1) := by decide +kernel
theorem d1_244 : decode prog_15_method_1_code 244 = .ok (.iinc 6 1, 3) := by decide +kernel
theorem d1_247 : decode prog_15_method_1_code 247 = .ok (.goto (-42), 3) := by decide +kernel
set_option maxRecDepth 65536 in
set_option maxHeartbeats 40000000 in
theorem l4_turn {p : Program} {l : Launch} {e : Env} {R : Room} {s : State} {m : MethodId} {args : Array Value} {below : List Frame} {meth : Method} {c : Code} {T0 : State} {locs : List Loc} {cells slots : Nat} {Z : State} {a0 : Array Value} {h0 : Heap} {n0 : Nat} {Rst : RL} (ax : Addr) (ix : Addr) (b1 : Addr) (b2 : Addr) (b3 : Addr) (b4 : Addr) (b5 : Addr) (b6 : Addr) (b7 : Addr) (cnt : Nat) (sz : Nat) (cap : Nat) (nx : Addr) (i : Nat) (s7 : Slot) (s8 : Slot) (el : List Nat) (lo : List Nat) (ns : List Nat) (es : List Nat)
    (X0 : Stand p l e R s m args below meth c T0 locs cells slots) (hx : p.tables.exec = Jvm.exec) (hZ : Z.Warmed39 s.vm) (hw : ∀ d ∈ tables_1, d.before a0 Z = true) (hby : c.code = prog_15_method_1_code) (hml : c.maxLocals = 9) (hown : s.vm.findClass "com/example/witgen/witgen/regex/Partition" = some m.cls) (e0 : T0.heap = h0) (N0 : Fr n0 locs) (R0 : Rep Z n0 h0 ((ax, Obj "com/example/witgen/witgen/regex/Partition" [("elements", "[I", (.ref b1)), ("location", "[I", (.ref b2)), ("blockOf", "[I", (.ref b3)), ("start", "[I", (.ref b4)), ("end", "[I", (.ref b5)), ("marked", "[I", (.ref b6)), ("touched", "[I", (.ref b7)), ("blocks", "I", (.int (Int32.ofNat cnt))), ("touchedCount", "I", (.int (0 : Int32)))]) :: (b1, Ar .int (nl el)) :: (b2, Ar .int (nl lo)) :: (nx, Ar .int (nl ns)) :: (ix, Ar .int (nl es)) :: Rst)) (hi : i < sz) (hbd : sz < 1000) (hin222 : i < es.length) (hbd222 : i < 1000) (hin224 : (es.getD i 0) < ns.length) (hbd224 : (es.getD i 0) < 1000) (hsn228 : (es.getD i 0) < ns.length) (hsb228 : (es.getD i 0) < 1000) (hsn229 : i < lo.length) (hsb229 : i < 1000) (hin240 : i < (lo.set i (ns.getD (es.getD i 0) 0)).length) (hbd240 : i < 1000) (hsn243 : ((lo.set i (ns.getD (es.getD i 0) 0)).getD i 0) < el.length) (hsb243 : ((lo.set i (ns.getD (es.getD i 0) 0)).getD i 0) < 1000) :
    ∃ (T' : State) (h' : Heap) (locs' : List Loc), Stand p l e R s m args below meth c T' locs' cells slots ∧ T'.heap = h' ∧ Fr n0 locs' ∧ Rep Z n0 h' ((ax, Obj "com/example/witgen/witgen/regex/Partition" [("elements", "[I", (.ref b1)), ("location", "[I", (.ref b2)), ("blockOf", "[I", (.ref b3)), ("start", "[I", (.ref b4)), ("end", "[I", (.ref b5)), ("marked", "[I", (.ref b6)), ("touched", "[I", (.ref b7)), ("blocks", "I", (.int (Int32.ofNat cnt))), ("touchedCount", "I", (.int (0 : Int32)))]) :: (b1, Ar .int (nl (el.set ((lo.set i (ns.getD (es.getD i 0) 0)).getD i 0) i))) :: (b2, Ar .int (nl (lo.set i (ns.getD (es.getD i 0) 0)))) :: (nx, Ar .int (nl (ns.set (es.getD i 0) ((ns.getD (es.getD i 0) 0) + 1)))) :: (ix, Ar .int (nl es)) :: Rst) ∧ ∀ t, Steps p.tables e below (T'.setTop (mkF m 205 #[.val (.ref ax), .val (.ref ix), .val (.int (Int32.ofNat cnt)), .val (.int (Int32.ofNat sz)), .val (.int (Int32.ofNat cap)), .val (.ref nx), .val (.int (Int32.ofNat (i + 1))), s7, s8] [])) t → Steps p.tables e below (T0.setTop (mkF m 205 #[.val (.ref ax), .val (.ref ix), .val (.int (Int32.ofNat cnt)), .val (.int (Int32.ofNat sz)), .val (.int (Int32.ofNat cap)), .val (.ref nx), .val (.int (Int32.ofNat i)), s7, s8] [])) t := by
  have pre0 : ∀ t, Steps p.tables e below (T0.setTop (mkF m 205 #[.val (.ref ax), .val (.ref ix), .val (.int (Int32.ofNat cnt)), .val (.int (Int32.ofNat sz)), .val (.int (Int32.ofNat cap)), .val (.ref nx), .val (.int (Int32.ofNat i)), s7, s8] [])) t → Steps p.tables e below (T0.setTop (mkF m 205 #[.val (.ref ax), .val (.ref ix), .val (.int (Int32.ofNat cnt)), .val (.int (Int32.ofNat sz)), .val (.int (Int32.ofNat cap)), .val (.ref nx), .val (.int (Int32.ofNat i)), s7, s8] [])) t := fun t k => k
  have pre2 : ∀ t, Steps p.tables e below (T0.setTop (mkF m 208 #[.val (.ref ax), .val (.ref ix), .val (.int (Int32.ofNat cnt)), .val (.int (Int32.ofNat sz)), .val (.int (Int32.ofNat cap)), .val (.ref nx), .val (.int (Int32.ofNat i)), s7, s8] [(.int (Int32.ofNat sz)), (.int (Int32.ofNat i))])) t → Steps p.tables e below (T0.setTop (mkF m 205 #[.val (.ref ax), .val (.ref ix), .val (.int (Int32.ofNat cnt)), .val (.int (Int32.ofNat sz)), .val (.int (Int32.ofNat cap)), .val (.ref nx), .val (.int (Int32.ofNat i)), s7, s8] [])) t := fun t k => pre0 t (by
    show Steps p.tables e below (T0.setTop (mkF m 205 #[.val (.ref ax), .val (.ref ix), .val (.int (Int32.ofNat cnt)), .val (.int (Int32.ofNat sz)), .val (.int (Int32.ofNat cap)), .val (.ref nx), .val (.int (Int32.ofNat i)), s7, s8] [])) _
    refine XS.iload X0.here hx rfl (hb hby d1_205) rfl ?_
    refine XS.iloadN X0.here hx rfl (hb hby d1_207) rfl ?_
    exact k)
  have hb1 : (Int32.ofNat i) < (Int32.ofNat sz) := n_lt hi hbd
  have pre3 : ∀ t, Steps p.tables e below (T0.setTop (mkF m 212 #[.val (.ref ax), .val (.ref ix), .val (.int (Int32.ofNat cnt)), .val (.int (Int32.ofNat sz)), .val (.int (Int32.ofNat cap)), .val (.ref nx), .val (.int (Int32.ofNat i)), s7, s8] [(.ref ax)])) t → Steps p.tables e below (T0.setTop (mkF m 205 #[.val (.ref ax), .val (.ref ix), .val (.int (Int32.ofNat cnt)), .val (.int (Int32.ofNat sz)), .val (.int (Int32.ofNat cap)), .val (.ref nx), .val (.int (Int32.ofNat i)), s7, s8] [])) t := fun t k => pre2 t (by
    show Steps p.tables e below (T0.setTop (mkF m 208 #[.val (.ref ax), .val (.ref ix), .val (.int (Int32.ofNat cnt)), .val (.int (Int32.ofNat sz)), .val (.int (Int32.ofNat cap)), .val (.ref nx), .val (.int (Int32.ofNat i)), s7, s8] [(.int (Int32.ofNat sz)), (.int (Int32.ofNat i))])) _
    refine XS.icmpNo X0.here hx rfl (hb hby d1_208) rfl (tlt hb1).2.1 ?_
    refine XS.aloadN X0.here hx rfl (hb hby d1_211) rfl rfl ?_
    exact k)
  obtain ⟨T4, X4, e4, st4⟩ := gGet X0 hx hZ hown (host := "") (Or.inl (hw _ (List.mem_of_getElem? (i := 17) rfl))) e0 R0 0 1 rfl rfl (g := (mkF m 212 #[.val (.ref ax), .val (.ref ix), .val (.int (Int32.ofNat cnt)), .val (.int (Int32.ofNat sz)), .val (.int (Int32.ofNat cap)), .val (.ref nx), .val (.int (Int32.ofNat i)), s7, s8] [(.ref ax)])) rfl rfl (hb hby d1_212)
  have pre5 : ∀ t, Steps p.tables e below (T4.setTop (mkF m 215 #[.val (.ref ax), .val (.ref ix), .val (.int (Int32.ofNat cnt)), .val (.int (Int32.ofNat sz)), .val (.int (Int32.ofNat cap)), .val (.ref nx), .val (.int (Int32.ofNat i)), s7, s8] [(.ref b2)])) t → Steps p.tables e below (T0.setTop (mkF m 205 #[.val (.ref ax), .val (.ref ix), .val (.int (Int32.ofNat cnt)), .val (.int (Int32.ofNat sz)), .val (.int (Int32.ofNat cap)), .val (.ref nx), .val (.int (Int32.ofNat i)), s7, s8] [])) t := fun t k => pre3 t (st4 t k)
  have pre6 : ∀ t, Steps p.tables e below (T4.setTop (mkF m 228 #[.val (.ref ax), .val (.ref ix), .val (.int (Int32.ofNat cnt)), .val (.int (Int32.ofNat sz)), .val (.int (Int32.ofNat cap)), .val (.ref nx), .val (.int (Int32.ofNat i)), s7, s8] [(.int (Int32.ofNat ((ns.getD (es.getD i 0) 0) + 1))), (.int (Int32.ofNat (es.getD i 0))), (.ref nx), (.int (Int32.ofNat (ns.getD (es.getD i 0) 0))), (.int (Int32.ofNat i)), (.ref b2)])) t → Steps p.tables e below (T0.setTop (mkF m 205 #[.val (.ref ax), .val (.ref ix), .val (.int (Int32.ofNat cnt)), .val (.int (Int32.ofNat sz)), .val (.int (Int32.ofNat cap)), .val (.ref nx), .val (.int (Int32.ofNat i)), s7, s8] [])) t := fun t k => pre5 t (by
    show Steps p.tables e below (T4.setTop (mkF m 215 #[.val (.ref ax), .val (.ref ix), .val (.int (Int32.ofNat cnt)), .val (.int (Int32.ofNat sz)), .val (.int (Int32.ofNat cap)), .val (.ref nx), .val (.int (Int32.ofNat i)), s7, s8] [(.ref b2)])) _
    refine XS.iload X4.here hx rfl (hb hby d1_215) rfl ?_
    refine XS.aload X4.here hx rfl (hb hby d1_217) rfl rfl ?_
    refine XS.aloadN X4.here hx rfl (hb hby d1_219) rfl rfl ?_
    refine XS.iload X4.here hx rfl (hb hby d1_220) rfl ?_
    refine gIald X4 hx hZ e4 R0 4 rfl (j := (Int32.ofNat i)) (v := (.int (Int32.ofNat (es.getD i 0)))) (n_nn hbd222) (nl_at hin222 hbd222) (g := (mkF m 222 #[.val (.ref ax), .val (.ref ix), .val (.int (Int32.ofNat cnt)), .val (.int (Int32.ofNat sz)), .val (.int (Int32.ofNat cap)), .val (.ref nx), .val (.int (Int32.ofNat i)), s7, s8] [(.int (Int32.ofNat i)), (.ref ix), (.ref nx), (.int (Int32.ofNat i)), (.ref b2)])) rfl rfl (hb hby d1_222) _ ?_
    refine xDup2 X4.here hx rfl (hb hby d1_223) rfl rfl rfl ?_
    refine gIald X4 hx hZ e4 R0 3 rfl (j := (Int32.ofNat (es.getD i 0))) (v := (.int (Int32.ofNat (ns.getD (es.getD i 0) 0)))) (n_nn hbd224) (nl_at hin224 hbd224) (g := (mkF m 224 #[.val (.ref ax), .val (.ref ix), .val (.int (Int32.ofNat cnt)), .val (.int (Int32.ofNat sz)), .val (.int (Int32.ofNat cap)), .val (.ref nx), .val (.int (Int32.ofNat i)), s7, s8] [(.int (Int32.ofNat (es.getD i 0))), (.ref nx), (.int (Int32.ofNat (es.getD i 0))), (.ref nx), (.int (Int32.ofNat i)), (.ref b2)])) rfl rfl (hb hby d1_224) _ ?_
    show Steps p.tables e below (T4.setTop (mkF m 225 #[.val (.ref ax), .val (.ref ix), .val (.int (Int32.ofNat cnt)), .val (.int (Int32.ofNat sz)), .val (.int (Int32.ofNat cap)), .val (.ref nx), .val (.int (Int32.ofNat i)), s7, s8] [(.int (Int32.ofNat (ns.getD (es.getD i 0) 0))), (.int (Int32.ofNat (es.getD i 0))), (.ref nx), (.int (Int32.ofNat i)), (.ref b2)])) _
    refine xDupX2 X4.here hx rfl (hb hby d1_225) rfl rfl rfl rfl ?_
    refine XS.iconst X4.here hx rfl (hb hby d1_226) ?_
    refine XS.iadd X4.here hx rfl (hb hby d1_227) rfl ?_
    change Steps p.tables e below (T4.setTop (mkF m 228 #[.val (.ref ax), .val (.ref ix), .val (.int (Int32.ofNat cnt)), .val (.int (Int32.ofNat sz)), .val (.int (Int32.ofNat cap)), .val (.ref nx), .val (.int (Int32.ofNat i)), s7, s8] [(.int ((Int32.ofNat (ns.getD (es.getD i 0) 0)) + (1 : Int32))), (.int (Int32.ofNat (es.getD i 0))), (.ref nx), (.int (Int32.ofNat (ns.getD (es.getD i 0) 0))), (.int (Int32.ofNat i)), (.ref b2)])) _
    rw [n_one]
    exact k)
  obtain ⟨T7, h7, ls7, X7, e7, N7, R7, st7⟩ := gIst X4 hx hZ e4 N0 R0 3 rfl (j := (Int32.ofNat (es.getD i 0))) (n_nn hsb228) ((es.getD i 0)) (n_ix hsb228) (nl_lt hsn228) (g := (mkF m 228 #[.val (.ref ax), .val (.ref ix), .val (.int (Int32.ofNat cnt)), .val (.int (Int32.ofNat sz)), .val (.int (Int32.ofNat cap)), .val (.ref nx), .val (.int (Int32.ofNat i)), s7, s8] [(.int (Int32.ofNat ((ns.getD (es.getD i 0) 0) + 1))), (.int (Int32.ofNat (es.getD i 0))), (.ref nx), (.int (Int32.ofNat (ns.getD (es.getD i 0) 0))), (.int (Int32.ofNat i)), (.ref b2)])) rfl rfl (hb hby d1_228)
  replace R7 : Rep Z n0 h7 ((ax, Obj "com/example/witgen/witgen/regex/Partition" [("elements", "[I", (.ref b1)), ("location", "[I", (.ref b2)), ("blockOf", "[I", (.ref b3)), ("start", "[I", (.ref b4)), ("end", "[I", (.ref b5)), ("marked", "[I", (.ref b6)), ("touched", "[I", (.ref b7)), ("blocks", "I", (.int (Int32.ofNat cnt))), ("touchedCount", "I", (.int (0 : Int32)))]) :: (b1, Ar .int (nl el)) :: (b2, Ar .int (nl lo)) :: (nx, Ar .int (nl (ns.set (es.getD i 0) ((ns.getD (es.getD i 0) 0) + 1)))) :: (ix, Ar .int (nl es)) :: Rst) := by rw [← nl_set ns (es.getD i 0) ((ns.getD (es.getD i 0) 0) + 1)]; exact R7
  have pre8 : ∀ t, Steps p.tables e below (T7.setTop (mkF m 229 #[.val (.ref ax), .val (.ref ix), .val (.int (Int32.ofNat cnt)), .val (.int (Int32.ofNat sz)), .val (.int (Int32.ofNat cap)), .val (.ref nx), .val (.int (Int32.ofNat i)), s7, s8] [(.int (Int32.ofNat (ns.getD (es.getD i 0) 0))), (.int (Int32.ofNat i)), (.ref b2)])) t → Steps p.tables e below (T0.setTop (mkF m 205 #[.val (.ref ax), .val (.ref ix), .val (.int (Int32.ofNat cnt)), .val (.int (Int32.ofNat sz)), .val (.int (Int32.ofNat cap)), .val (.ref nx), .val (.int (Int32.ofNat i)), s7, s8] [])) t := fun t k => pre6 t (st7 t k)
  obtain ⟨T9, h9, ls9, X9, e9, N9, R9, st9⟩ := gIst X7 hx hZ e7 N7 R7 2 rfl (j := (Int32.ofNat i)) (n_nn hsb229) (i) (n_ix hsb229) (nl_lt hsn229) (g := (mkF m 229 #[.val (.ref ax), .val (.ref ix), .val (.int (Int32.ofNat cnt)), .val (.int (Int32.ofNat sz)), .val (.int (Int32.ofNat cap)), .val (.ref nx), .val (.int (Int32.ofNat i)), s7, s8] [(.int (Int32.ofNat (ns.getD (es.getD i 0) 0))), (.int (Int32.ofNat i)), (.ref b2)])) rfl rfl (hb hby d1_229)
  replace R9 : Rep Z n0 h9 ((ax, Obj "com/example/witgen/witgen/regex/Partition" [("elements", "[I", (.ref b1)), ("location", "[I", (.ref b2)), ("blockOf", "[I", (.ref b3)), ("start", "[I", (.ref b4)), ("end", "[I", (.ref b5)), ("marked", "[I", (.ref b6)), ("touched", "[I", (.ref b7)), ("blocks", "I", (.int (Int32.ofNat cnt))), ("touchedCount", "I", (.int (0 : Int32)))]) :: (b1, Ar .int (nl el)) :: (b2, Ar .int (nl (lo.set i (ns.getD (es.getD i 0) 0)))) :: (nx, Ar .int (nl (ns.set (es.getD i 0) ((ns.getD (es.getD i 0) 0) + 1)))) :: (ix, Ar .int (nl es)) :: Rst) := by rw [← nl_set lo i (ns.getD (es.getD i 0) 0)]; exact R9
  have pre10 : ∀ t, Steps p.tables e below (T9.setTop (mkF m 230 #[.val (.ref ax), .val (.ref ix), .val (.int (Int32.ofNat cnt)), .val (.int (Int32.ofNat sz)), .val (.int (Int32.ofNat cap)), .val (.ref nx), .val (.int (Int32.ofNat i)), s7, s8] [])) t → Steps p.tables e below (T0.setTop (mkF m 205 #[.val (.ref ax), .val (.ref ix), .val (.int (Int32.ofNat cnt)), .val (.int (Int32.ofNat sz)), .val (.int (Int32.ofNat cap)), .val (.ref nx), .val (.int (Int32.ofNat i)), s7, s8] [])) t := fun t k => pre8 t (st9 t k)
  have pre11 : ∀ t, Steps p.tables e below (T9.setTop (mkF m 231 #[.val (.ref ax), .val (.ref ix), .val (.int (Int32.ofNat cnt)), .val (.int (Int32.ofNat sz)), .val (.int (Int32.ofNat cap)), .val (.ref nx), .val (.int (Int32.ofNat i)), s7, s8] [(.ref ax)])) t → Steps p.tables e below (T0.setTop (mkF m 205 #[.val (.ref ax), .val (.ref ix), .val (.int (Int32.ofNat cnt)), .val (.int (Int32.ofNat sz)), .val (.int (Int32.ofNat cap)), .val (.ref nx), .val (.int (Int32.ofNat i)), s7, s8] [])) t := fun t k => pre10 t (by
    show Steps p.tables e below (T9.setTop (mkF m 230 #[.val (.ref ax), .val (.ref ix), .val (.int (Int32.ofNat cnt)), .val (.int (Int32.ofNat sz)), .val (.int (Int32.ofNat cap)), .val (.ref nx), .val (.int (Int32.ofNat i)), s7, s8] [])) _
    refine XS.aloadN X9.here hx rfl (hb hby d1_230) rfl rfl ?_
    exact k)
  obtain ⟨T12, X12, e12, st12⟩ := gGet X9 hx hZ hown (host := "") (Or.inl (hw _ (List.mem_of_getElem? (i := 15) rfl))) e9 R9 0 0 rfl rfl (g := (mkF m 231 #[.val (.ref ax), .val (.ref ix), .val (.int (Int32.ofNat cnt)), .val (.int (Int32.ofNat sz)), .val (.int (Int32.ofNat cap)), .val (.ref nx), .val (.int (Int32.ofNat i)), s7, s8] [(.ref ax)])) rfl rfl (hb hby d1_231)
  have pre13 : ∀ t, Steps p.tables e below (T12.setTop (mkF m 234 #[.val (.ref ax), .val (.ref ix), .val (.int (Int32.ofNat cnt)), .val (.int (Int32.ofNat sz)), .val (.int (Int32.ofNat cap)), .val (.ref nx), .val (.int (Int32.ofNat i)), s7, s8] [(.ref b1)])) t → Steps p.tables e below (T0.setTop (mkF m 205 #[.val (.ref ax), .val (.ref ix), .val (.int (Int32.ofNat cnt)), .val (.int (Int32.ofNat sz)), .val (.int (Int32.ofNat cap)), .val (.ref nx), .val (.int (Int32.ofNat i)), s7, s8] [])) t := fun t k => pre11 t (st12 t k)
  have pre14 : ∀ t, Steps p.tables e below (T12.setTop (mkF m 235 #[.val (.ref ax), .val (.ref ix), .val (.int (Int32.ofNat cnt)), .val (.int (Int32.ofNat sz)), .val (.int (Int32.ofNat cap)), .val (.ref nx), .val (.int (Int32.ofNat i)), s7, s8] [(.ref ax), (.ref b1)])) t → Steps p.tables e below (T0.setTop (mkF m 205 #[.val (.ref ax), .val (.ref ix), .val (.int (Int32.ofNat cnt)), .val (.int (Int32.ofNat sz)), .val (.int (Int32.ofNat cap)), .val (.ref nx), .val (.int (Int32.ofNat i)), s7, s8] [])) t := fun t k => pre13 t (by
    show Steps p.tables e below (T12.setTop (mkF m 234 #[.val (.ref ax), .val (.ref ix), .val (.int (Int32.ofNat cnt)), .val (.int (Int32.ofNat sz)), .val (.int (Int32.ofNat cap)), .val (.ref nx), .val (.int (Int32.ofNat i)), s7, s8] [(.ref b1)])) _
    refine XS.aloadN X12.here hx rfl (hb hby d1_234) rfl rfl ?_
    exact k)
  obtain ⟨T15, X15, e15, st15⟩ := gGet X12 hx hZ hown (host := "") (Or.inl (hw _ (List.mem_of_getElem? (i := 17) rfl))) e12 R9 0 1 rfl rfl (g := (mkF m 235 #[.val (.ref ax), .val (.ref ix), .val (.int (Int32.ofNat cnt)), .val (.int (Int32.ofNat sz)), .val (.int (Int32.ofNat cap)), .val (.ref nx), .val (.int (Int32.ofNat i)), s7, s8] [(.ref ax), (.ref b1)])) rfl rfl (hb hby d1_235)
  have pre16 : ∀ t, Steps p.tables e below (T15.setTop (mkF m 238 #[.val (.ref ax), .val (.ref ix), .val (.int (Int32.ofNat cnt)), .val (.int (Int32.ofNat sz)), .val (.int (Int32.ofNat cap)), .val (.ref nx), .val (.int (Int32.ofNat i)), s7, s8] [(.ref b2), (.ref b1)])) t → Steps p.tables e below (T0.setTop (mkF m 205 #[.val (.ref ax), .val (.ref ix), .val (.int (Int32.ofNat cnt)), .val (.int (Int32.ofNat sz)), .val (.int (Int32.ofNat cap)), .val (.ref nx), .val (.int (Int32.ofNat i)), s7, s8] [])) t := fun t k => pre14 t (st15 t k)
  have pre17 : ∀ t, Steps p.tables e below (T15.setTop (mkF m 243 #[.val (.ref ax), .val (.ref ix), .val (.int (Int32.ofNat cnt)), .val (.int (Int32.ofNat sz)), .val (.int (Int32.ofNat cap)), .val (.ref nx), .val (.int (Int32.ofNat i)), s7, s8] [(.int (Int32.ofNat i)), (.int (Int32.ofNat ((lo.set i (ns.getD (es.getD i 0) 0)).getD i 0))), (.ref b1)])) t → Steps p.tables e below (T0.setTop (mkF m 205 #[.val (.ref ax), .val (.ref ix), .val (.int (Int32.ofNat cnt)), .val (.int (Int32.ofNat sz)), .val (.int (Int32.ofNat cap)), .val (.ref nx), .val (.int (Int32.ofNat i)), s7, s8] [])) t := fun t k => pre16 t (by
    show Steps p.tables e below (T15.setTop (mkF m 238 #[.val (.ref ax), .val (.ref ix), .val (.int (Int32.ofNat cnt)), .val (.int (Int32.ofNat sz)), .val (.int (Int32.ofNat cap)), .val (.ref nx), .val (.int (Int32.ofNat i)), s7, s8] [(.ref b2), (.ref b1)])) _
    refine XS.iload X15.here hx rfl (hb hby d1_238) rfl ?_
    refine gIald X15 hx hZ e15 R9 2 rfl (j := (Int32.ofNat i)) (v := (.int (Int32.ofNat ((lo.set i (ns.getD (es.getD i 0) 0)).getD i 0)))) (n_nn hbd240) (nl_at hin240 hbd240) (g := (mkF m 240 #[.val (.ref ax), .val (.ref ix), .val (.int (Int32.ofNat cnt)), .val (.int (Int32.ofNat sz)), .val (.int (Int32.ofNat cap)), .val (.ref nx), .val (.int (Int32.ofNat i)), s7, s8] [(.int (Int32.ofNat i)), (.ref b2), (.ref b1)])) rfl rfl (hb hby d1_240) _ ?_
    refine XS.iload X15.here hx rfl (hb hby d1_241) rfl ?_
    exact k)
  obtain ⟨T18, h18, ls18, X18, e18, N18, R18, st18⟩ := gIst X15 hx hZ e15 N9 R9 1 rfl (j := (Int32.ofNat ((lo.set i (ns.getD (es.getD i 0) 0)).getD i 0))) (n_nn hsb243) (((lo.set i (ns.getD (es.getD i 0) 0)).getD i 0)) (n_ix hsb243) (nl_lt hsn243) (g := (mkF m 243 #[.val (.ref ax), .val (.ref ix), .val (.int (Int32.ofNat cnt)), .val (.int (Int32.ofNat sz)), .val (.int (Int32.ofNat cap)), .val (.ref nx), .val (.int (Int32.ofNat i)), s7, s8] [(.int (Int32.ofNat i)), (.int (Int32.ofNat ((lo.set i (ns.getD (es.getD i 0) 0)).getD i 0))), (.ref b1)])) rfl rfl (hb hby d1_243)
  replace R18 : Rep Z n0 h18 ((ax, Obj "com/example/witgen/witgen/regex/Partition" [("elements", "[I", (.ref b1)), ("location", "[I", (.ref b2)), ("blockOf", "[I", (.ref b3)), ("start", "[I", (.ref b4)), ("end", "[I", (.ref b5)), ("marked", "[I", (.ref b6)), ("touched", "[I", (.ref b7)), ("blocks", "I", (.int (Int32.ofNat cnt))), ("touchedCount", "I", (.int (0 : Int32)))]) :: (b1, Ar .int (nl (el.set ((lo.set i (ns.getD (es.getD i 0) 0)).getD i 0) i))) :: (b2, Ar .int (nl (lo.set i (ns.getD (es.getD i 0) 0)))) :: (nx, Ar .int (nl (ns.set (es.getD i 0) ((ns.getD (es.getD i 0) 0) + 1)))) :: (ix, Ar .int (nl es)) :: Rst) := by rw [← nl_set el ((lo.set i (ns.getD (es.getD i 0) 0)).getD i 0) i]; exact R18
  have pre19 : ∀ t, Steps p.tables e below (T18.setTop (mkF m 244 #[.val (.ref ax), .val (.ref ix), .val (.int (Int32.ofNat cnt)), .val (.int (Int32.ofNat sz)), .val (.int (Int32.ofNat cap)), .val (.ref nx), .val (.int (Int32.ofNat i)), s7, s8] [])) t → Steps p.tables e below (T0.setTop (mkF m 205 #[.val (.ref ax), .val (.ref ix), .val (.int (Int32.ofNat cnt)), .val (.int (Int32.ofNat sz)), .val (.int (Int32.ofNat cap)), .val (.ref nx), .val (.int (Int32.ofNat i)), s7, s8] [])) t := fun t k => pre17 t (st18 t k)
  have pre20 : ∀ t, Steps p.tables e below (T18.setTop (mkF m 205 #[.val (.ref ax), .val (.ref ix), .val (.int (Int32.ofNat cnt)), .val (.int (Int32.ofNat sz)), .val (.int (Int32.ofNat cap)), .val (.ref nx), .val (.int (Int32.ofNat (i + 1))), s7, s8] [])) t → Steps p.tables e below (T0.setTop (mkF m 205 #[.val (.ref ax), .val (.ref ix), .val (.int (Int32.ofNat cnt)), .val (.int (Int32.ofNat sz)), .val (.int (Int32.ofNat cap)), .val (.ref nx), .val (.int (Int32.ofNat i)), s7, s8] [])) t := fun t k => pre19 t (by
    show Steps p.tables e below (T18.setTop (mkF m 244 #[.val (.ref ax), .val (.ref ix), .val (.int (Int32.ofNat cnt)), .val (.int (Int32.ofNat sz)), .val (.int (Int32.ofNat cap)), .val (.ref nx), .val (.int (Int32.ofNat i)), s7, s8] [])) _
    refine XS.iinc X18.here hx rfl (hb hby d1_244) rfl (l' := #[.val (.ref ax), .val (.ref ix), .val (.int (Int32.ofNat cnt)), .val (.int (Int32.ofNat sz)), .val (.int (Int32.ofNat cap)), .val (.ref nx), .val (.int ((Int32.ofNat i) + (1 : Int32))), s7, s8]) rfl ?_
    change Steps p.tables e below (T18.setTop (mkF m 247 #[.val (.ref ax), .val (.ref ix), .val (.int (Int32.ofNat cnt)), .val (.int (Int32.ofNat sz)), .val (.int (Int32.ofNat cap)), .val (.ref nx), .val (.int ((Int32.ofNat i) + (1 : Int32))), s7, s8] [])) _
    rw [n_one]
    show Steps p.tables e below (T18.setTop (mkF m 247 #[.val (.ref ax), .val (.ref ix), .val (.int (Int32.ofNat cnt)), .val (.int (Int32.ofNat sz)), .val (.int (Int32.ofNat cap)), .val (.ref nx), .val (.int (Int32.ofNat (i + 1))), s7, s8] [])) _
    refine XS.goto X18.here hx rfl (pc0 := 247) (pc' := 205) rfl (hb hby d1_247) (by decide) (by decide) ?_
    exact k)
  exact ⟨T18, h18, _, X18, e18, N18, R18, pre20⟩
set_option maxRecDepth 65536 in
set_option maxHeartbeats 40000000 in
theorem l4_out {p : Program} {l : Launch} {e : Env} {R : Room} {s : State} {m : MethodId} {args : Array Value} {below : List Frame} {meth : Method} {c : Code} {T0 : State} {locs : List Loc} {cells slots : Nat} {Z : State} {a0 : Array Value} {h0 : Heap} {n0 : Nat} {Rst : RL} (ax : Addr) (ix : Addr) (b1 : Addr) (b2 : Addr) (b3 : Addr) (b4 : Addr) (b5 : Addr) (b6 : Addr) (b7 : Addr) (cnt : Nat) (sz : Nat) (cap : Nat) (nx : Addr) (i : Nat) (s7 : Slot) (s8 : Slot) (el : List Nat) (lo : List Nat) (ns : List Nat) (es : List Nat)
    (X0 : Stand p l e R s m args below meth c T0 locs cells slots) (hx : p.tables.exec = Jvm.exec) (hZ : Z.Warmed39 s.vm) (hw : ∀ d ∈ tables_1, d.before a0 Z = true) (hby : c.code = prog_15_method_1_code) (hml : c.maxLocals = 9) (hown : s.vm.findClass "com/example/witgen/witgen/regex/Partition" = some m.cls) (e0 : T0.heap = h0) (N0 : Fr n0 locs) (R0 : Rep Z n0 h0 ((ax, Obj "com/example/witgen/witgen/regex/Partition" [("elements", "[I", (.ref b1)), ("location", "[I", (.ref b2)), ("blockOf", "[I", (.ref b3)), ("start", "[I", (.ref b4)), ("end", "[I", (.ref b5)), ("marked", "[I", (.ref b6)), ("touched", "[I", (.ref b7)), ("blocks", "I", (.int (Int32.ofNat cnt))), ("touchedCount", "I", (.int (0 : Int32)))]) :: (b1, Ar .int (nl el)) :: (b2, Ar .int (nl lo)) :: (nx, Ar .int (nl ns)) :: (ix, Ar .int (nl es)) :: Rst)) (hi : sz ≤ i) (hbd : i < 1000) :
    ∃ (T' : State) (h' : Heap) (locs' : List Loc), Stand p l e R s m args below meth c T' locs' cells slots ∧ T'.heap = h' ∧ Fr n0 locs' ∧ Rep Z n0 h' ((ax, Obj "com/example/witgen/witgen/regex/Partition" [("elements", "[I", (.ref b1)), ("location", "[I", (.ref b2)), ("blockOf", "[I", (.ref b3)), ("start", "[I", (.ref b4)), ("end", "[I", (.ref b5)), ("marked", "[I", (.ref b6)), ("touched", "[I", (.ref b7)), ("blocks", "I", (.int (Int32.ofNat cnt))), ("touchedCount", "I", (.int (0 : Int32)))]) :: (b1, Ar .int (nl el)) :: (b2, Ar .int (nl lo)) :: (nx, Ar .int (nl ns)) :: (ix, Ar .int (nl es)) :: Rst) ∧ ∀ t, Steps p.tables e below (T'.setTop (mkF m 250 #[.val (.ref ax), .val (.ref ix), .val (.int (Int32.ofNat cnt)), .val (.int (Int32.ofNat sz)), .val (.int (Int32.ofNat cap)), .val (.ref nx), .val (.int (Int32.ofNat i)), s7, s8] [])) t → Steps p.tables e below (T0.setTop (mkF m 205 #[.val (.ref ax), .val (.ref ix), .val (.int (Int32.ofNat cnt)), .val (.int (Int32.ofNat sz)), .val (.int (Int32.ofNat cap)), .val (.ref nx), .val (.int (Int32.ofNat i)), s7, s8] [])) t := by
  have pre0 : ∀ t, Steps p.tables e below (T0.setTop (mkF m 205 #[.val (.ref ax), .val (.ref ix), .val (.int (Int32.ofNat cnt)), .val (.int (Int32.ofNat sz)), .val (.int (Int32.ofNat cap)), .val (.ref nx), .val (.int (Int32.ofNat i)), s7, s8] [])) t → Steps p.tables e below (T0.setTop (mkF m 205 #[.val (.ref ax), .val (.ref ix), .val (.int (Int32.ofNat cnt)), .val (.int (Int32.ofNat sz)), .val (.int (Int32.ofNat cap)), .val (.ref nx), .val (.int (Int32.ofNat i)), s7, s8] [])) t := fun t k => k
  have pre2 : ∀ t, Steps p.tables e below (T0.setTop (mkF m 208 #[.val (.ref ax), .val (.ref ix), .val (.int (Int32.ofNat cnt)), .val (.int (Int32.ofNat sz)), .val (.int (Int32.ofNat cap)), .val (.ref nx), .val (.int (Int32.ofNat i)), s7, s8] [(.int (Int32.ofNat sz)), (.int (Int32.ofNat i))])) t → Steps p.tables e below (T0.setTop (mkF m 205 #[.val (.ref ax), .val (.ref ix), .val (.int (Int32.ofNat cnt)), .val (.int (Int32.ofNat sz)), .val (.int (Int32.ofNat cap)), .val (.ref nx), .val (.int (Int32.ofNat i)), s7, s8] [])) t := fun t k => pre0 t (by
    show Steps p.tables e below (T0.setTop (mkF m 205 #[.val (.ref ax), .val (.ref ix), .val (.int (Int32.ofNat cnt)), .val (.int (Int32.ofNat sz)), .val (.int (Int32.ofNat cap)), .val (.ref nx), .val (.int (Int32.ofNat i)), s7, s8] [])) _
    refine XS.iload X0.here hx rfl (hb hby d1_205) rfl ?_
    refine XS.iloadN X0.here hx rfl (hb hby d1_207) rfl ?_
    exact k)
  have hb1 : ¬ ((Int32.ofNat i) < (Int32.ofNat sz)) := n_nlt hi hbd
  have pre3 : ∀ t, Steps p.tables e below (T0.setTop (mkF m 250 #[.val (.ref ax), .val (.ref ix), .val (.int (Int32.ofNat cnt)), .val (.int (Int32.ofNat sz)), .val (.int (Int32.ofNat cap)), .val (.ref nx), .val (.int (Int32.ofNat i)), s7, s8] [])) t → Steps p.tables e below (T0.setTop (mkF m 205 #[.val (.ref ax), .val (.ref ix), .val (.int (Int32.ofNat cnt)), .val (.int (Int32.ofNat sz)), .val (.int (Int32.ofNat cap)), .val (.ref nx), .val (.int (Int32.ofNat i)), s7, s8] [])) t := fun t k => pre2 t (by
    show Steps p.tables e below (T0.setTop (mkF m 208 #[.val (.ref ax), .val (.ref ix), .val (.int (Int32.ofNat cnt)), .val (.int (Int32.ofNat sz)), .val (.int (Int32.ofNat cap)), .val (.ref nx), .val (.int (Int32.ofNat i)), s7, s8] [(.int (Int32.ofNat sz)), (.int (Int32.ofNat i))])) _
    refine XS.icmpYes X0.here hx rfl (pc0 := 208) (pc' := 250) rfl (hb hby d1_208) rfl (flt hb1).2.1 (by decide) (by decide) ?_
    exact k)
  exact ⟨T0, h0, _, X0, e0, N0, R0, pre3⟩
def s4 (es : List Nat) : Nat → Nat → List Nat → List Nat → List Nat → List Nat × List Nat × List Nat
  | 0, _, el, lo, ns => (el, lo, ns)
  | k + 1, i, el, lo, ns => s4 es k (i + 1) (el.set ((lo.set i (ns.getD (es.getD i 0) 0)).getD i 0) i) (lo.set i (ns.getD (es.getD i 0) 0)) (ns.set (es.getD i 0) (ns.getD (es.getD i 0) 0 + 1))
def ok4 (es : List Nat) : Nat → Nat → List Nat → List Nat → List Nat → Bool
  | 0, _, _, _, _ => true
  | k + 1, i, el, lo, ns => decide (i < es.length) && decide (i < 1000) && decide (es.getD i 0 < ns.length) && decide (es.getD i 0 < 1000) && decide (i < lo.length) && decide (i < (lo.set i (ns.getD (es.getD i 0) 0)).length) && decide ((lo.set i (ns.getD (es.getD i 0) 0)).getD i 0 < el.length) && decide ((lo.set i (ns.getD (es.getD i 0) 0)).getD i 0 < 1000) && ok4 es k (i + 1) (el.set ((lo.set i (ns.getD (es.getD i 0) 0)).getD i 0) i) (lo.set i (ns.getD (es.getD i 0) 0)) (ns.set (es.getD i 0) (ns.getD (es.getD i 0) 0 + 1))
theorem l4_loop {p : Program} {l : Launch} {e : Env} {R : Room} {s : State} {m : MethodId} {args : Array Value} {below : List Frame} {meth : Method} {c : Code} {cells slots : Nat} {Z : State} {a0 : Array Value} {n0 : Nat} {Rst : RL} (ax ix : Addr) (b1 b2 b3 b4 b5 b6 b7 : Addr) (cnt sz cap : Nat) (nx : Addr) (s7 s8 : Slot) (es : List Nat) (hbd : sz < 1000) (hx : p.tables.exec = Jvm.exec) (hZ : Z.Warmed39 s.vm) (hw : ∀ d ∈ tables_1, d.before a0 Z = true) (hby : c.code = prog_15_method_1_code) (hml : c.maxLocals = 9) (hown : s.vm.findClass "com/example/witgen/witgen/regex/Partition" = some m.cls) :
    ∀ (k i : Nat) (el lo ns : List Nat) (T0 : State) (locs : List Loc) (h0 : Heap), i + k = sz → ok4 es k i el lo ns = true → Stand p l e R s m args below meth c T0 locs cells slots → T0.heap = h0 → Fr n0 locs → Rep Z n0 h0 ((ax, Obj "com/example/witgen/witgen/regex/Partition" [("elements", "[I", (.ref b1)), ("location", "[I", (.ref b2)), ("blockOf", "[I", (.ref b3)), ("start", "[I", (.ref b4)), ("end", "[I", (.ref b5)), ("marked", "[I", (.ref b6)), ("touched", "[I", (.ref b7)), ("blocks", "I", (.int (Int32.ofNat cnt))), ("touchedCount", "I", (.int (0 : Int32)))]) :: (b1, Ar .int (nl el)) :: (b2, Ar .int (nl lo)) :: (nx, Ar .int (nl ns)) :: (ix, Ar .int (nl es)) :: Rst) →
      ∃ (T' : State) (h' : Heap) (locs' : List Loc), Stand p l e R s m args below meth c T' locs' cells slots ∧ T'.heap = h' ∧ Fr n0 locs' ∧ Rep Z n0 h' ((ax, Obj "com/example/witgen/witgen/regex/Partition" [("elements", "[I", (.ref b1)), ("location", "[I", (.ref b2)), ("blockOf", "[I", (.ref b3)), ("start", "[I", (.ref b4)), ("end", "[I", (.ref b5)), ("marked", "[I", (.ref b6)), ("touched", "[I", (.ref b7)), ("blocks", "I", (.int (Int32.ofNat cnt))), ("touchedCount", "I", (.int (0 : Int32)))]) :: (b1, Ar .int (nl (s4 es k i el lo ns).1)) :: (b2, Ar .int (nl (s4 es k i el lo ns).2.1)) :: (nx, Ar .int (nl (s4 es k i el lo ns).2.2)) :: (ix, Ar .int (nl es)) :: Rst) ∧ ∀ t, Steps p.tables e below (T'.setTop (mkF m 250 #[.val (.ref ax), .val (.ref ix), .val (.int (Int32.ofNat cnt)), .val (.int (Int32.ofNat sz)), .val (.int (Int32.ofNat cap)), .val (.ref nx), .val (.int (Int32.ofNat sz)), s7, s8] [])) t → Steps p.tables e below (T0.setTop (mkF m 205 #[.val (.ref ax), .val (.ref ix), .val (.int (Int32.ofNat cnt)), .val (.int (Int32.ofNat sz)), .val (.int (Int32.ofNat cap)), .val (.ref nx), .val (.int (Int32.ofNat i)), s7, s8] [])) t := by
  intro k
  induction k with
  | zero =>
    intro i el lo ns T0 locs h0 hi ok X0 e0 N0 R0
    have hi' : i = sz := by omega
    subst hi'
    exact l4_out ax ix b1 b2 b3 b4 b5 b6 b7 cnt i cap nx i s7 s8 el lo ns es X0 hx hZ hw hby hml hown e0 N0 R0 (Nat.le_refl _) hbd
  | succ k ih =>
    intro i el lo ns T0 locs h0 hi ok X0 e0 N0 R0
    simp only [ok4, Bool.and_eq_true, decide_eq_true_eq] at ok
    obtain ⟨⟨⟨⟨⟨⟨⟨⟨a1, a2⟩, a3⟩, a4⟩, a6⟩, a7⟩, a8⟩, a9⟩, a5⟩ := ok
    obtain ⟨T1, h1, ls1, X1, e1, N1, R1, st1⟩ := l4_turn ax ix b1 b2 b3 b4 b5 b6 b7 cnt sz cap nx i s7 s8 el lo ns es X0 hx hZ hw hby hml hown e0 N0 R0 (by omega) hbd a1 a2 a3 a4 a3 a4 a6 a2 a7 a2 a8 a9
    obtain ⟨T2, h2, ls2, X2, e2, N2, R2, st2⟩ := ih (i + 1) _ _ _ T1 ls1 h1 (by omega) a5 X1 e1 N1 R1
    exact ⟨T2, h2, ls2, X2, e2, N2, R2, fun t q => st1 t (st2 t q)⟩
def pN (es : List Nat) (cnt : Nat) : Nat := max es.length cnt
def pE1 (es : List Nat) (cnt : Nat) : List Nat := s1 es es.length 0 (List.replicate (max es.length cnt) 0)
def pEn (es : List Nat) (cnt : Nat) : List Nat := s2 (cnt - 1) 1 (pE1 es cnt)
def pSt (es : List Nat) (cnt : Nat) : List Nat := s3 (pEn es cnt) cnt 0 (List.replicate (max es.length cnt) 0)
def pS4 (es : List Nat) (cnt : Nat) : List Nat × List Nat × List Nat := s4 es es.length 0 (List.replicate es.length 0) (List.replicate es.length 0) ((pSt es cnt).take cnt)
def okC (es : List Nat) (cnt : Nat) : Bool := ok1 es es.length 0 (List.replicate (max es.length cnt) 0) && ok2 (cnt - 1) 1 (pE1 es cnt) && ok3 (pEn es cnt) cnt 0 (List.replicate (max es.length cnt) 0) && ok4 es es.length 0 (List.replicate es.length 0) (List.replicate es.length 0) ((pSt es cnt).take cnt) && decide (cnt ≤ (pSt es cnt).length) && decide ((pSt es cnt).length ≤ 8)
theorem okC.parts {es : List Nat} {cnt : Nat} (h : okC es cnt = true) : ok1 es es.length 0 (List.replicate (max es.length cnt) 0) = true ∧ ok2 (cnt - 1) 1 (pE1 es cnt) = true ∧ ok3 (pEn es cnt) cnt 0 (List.replicate (max es.length cnt) 0) = true ∧ ok4 es es.length 0 (List.replicate es.length 0) (List.replicate es.length 0) ((pSt es cnt).take cnt) = true ∧ cnt ≤ (pSt es cnt).length ∧ (pSt es cnt).length ≤ 8 := by
  simp only [okC, Bool.and_eq_true, decide_eq_true_eq] at h
  exact ⟨h.1.1.1.1.1, h.1.1.1.1.2, h.1.1.1.2, h.1.1.2, h.1.2, h.2⟩
theorem d1_0 : decode prog_15_method_1_code 0 = .ok (.aload_n 0, 1) := by decide +kernel
theorem d1_1 : decode prog_15_method_1_code 1 = .ok (.invokespecial 1, 3) := by decide +kernel
theorem d1_4 : decode prog_15_method_1_code 4 = .ok (.aload_n 1, 1) := by decide +kernel
theorem d1_5 : decode prog_15_method_1_code 5 = .ok (.arraylength, 1) := by decide +kernel
theorem d1_6 : decode prog_15_method_1_code 6 = .ok (.istore_n 3, 1) := by decide +kernel
theorem d1_7 : decode prog_15_method_1_code 7 = .ok (.iload_n 3, 1) := by decide +kernel
theorem d1_8 : decode prog_15_method_1_code 8 = .ok (.iload_n 2, 1) := by decide +kernel
theorem d1_9 : decode prog_15_method_1_code 9 = .ok (.invokestatic 7, 3) := by decide +kernel
theorem d1_12 : decode prog_15_method_1_code 12 = .ok (.istore 4, 2) := by decide +kernel
theorem d1_14 : decode prog_15_method_1_code 14 = .ok (.aload_n 0, 1) := by decide +kernel
theorem d1_15 : decode prog_15_method_1_code 15 = .ok (.iload_n 3, 1) := by decide +kernel
theorem d1_16 : decode prog_15_method_1_code 16 = .ok (.newarray .int, 2) := by decide +kernel
theorem d1_18 : decode prog_15_method_1_code 18 = .ok (.putfield 13, 3) := by decide +kernel
theorem d1_21 : decode prog_15_method_1_code 21 = .ok (.aload_n 0, 1) := by decide +kernel
theorem d1_22 : decode prog_15_method_1_code 22 = .ok (.iload_n 3, 1) := by decide +kernel
theorem d1_23 : decode prog_15_method_1_code 23 = .ok (.newarray .int, 2) := by decide +kernel
theorem d1_25 : decode prog_15_method_1_code 25 = .ok (.putfield 19, 3) := by decide +kernel
theorem d1_28 : decode prog_15_method_1_code 28 = .ok (.aload_n 0, 1) := by decide +kernel
theorem d1_29 : decode prog_15_method_1_code 29 = .ok (.aload_n 1, 1) := by decide +kernel
theorem d1_30 : decode prog_15_method_1_code 30 = .ok (.invokevirtual 22, 3) := by decide +kernel
theorem d1_33 : decode prog_15_method_1_code 33 = .ok (.checkcast 23, 3) := by decide +kernel
theorem d1_36 : decode prog_15_method_1_code 36 = .ok (.putfield 27, 3) := by decide +kernel
theorem d1_39 : decode prog_15_method_1_code 39 = .ok (.aload_n 0, 1) := by decide +kernel
theorem d1_40 : decode prog_15_method_1_code 40 = .ok (.iload 4, 2) := by decide +kernel
theorem d1_42 : decode prog_15_method_1_code 42 = .ok (.newarray .int, 2) := by decide +kernel
theorem d1_44 : decode prog_15_method_1_code 44 = .ok (.putfield 30, 3) := by decide +kernel
theorem d1_47 : decode prog_15_method_1_code 47 = .ok (.aload_n 0, 1) := by decide +kernel
theorem d1_48 : decode prog_15_method_1_code 48 = .ok (.iload 4, 2) := by decide +kernel
theorem d1_50 : decode prog_15_method_1_code 50 = .ok (.newarray .int, 2) := by decide +kernel
theorem d1_52 : decode prog_15_method_1_code 52 = .ok (.putfield 33, 3) := by decide +kernel
theorem d1_55 : decode prog_15_method_1_code 55 = .ok (.aload_n 0, 1) := by decide +kernel
theorem d1_56 : decode prog_15_method_1_code 56 = .ok (.iload 4, 2) := by decide +kernel
theorem d1_58 : decode prog_15_method_1_code 58 = .ok (.newarray .int, 2) := by decide +kernel
theorem d1_60 : decode prog_15_method_1_code 60 = .ok (.putfield 36, 3) := by decide +kernel
theorem d1_63 : decode prog_15_method_1_code 63 = .ok (.aload_n 0, 1) := by decide +kernel
theorem d1_64 : decode prog_15_method_1_code 64 = .ok (.iload 4, 2) := by decide +kernel
theorem d1_66 : decode prog_15_method_1_code 66 = .ok (.newarray .int, 2) := by decide +kernel
theorem d1_68 : decode prog_15_method_1_code 68 = .ok (.putfield 39, 3) := by decide +kernel
theorem d1_71 : decode prog_15_method_1_code 71 = .ok (.aload_n 0, 1) := by decide +kernel
theorem d1_72 : decode prog_15_method_1_code 72 = .ok (.iload_n 2, 1) := by decide +kernel
theorem d1_73 : decode prog_15_method_1_code 73 = .ok (.putfield 42, 3) := by decide +kernel
theorem d1_76 : decode prog_15_method_1_code 76 = .ok (.aload_n 1, 1) := by decide +kernel
theorem d1_77 : decode prog_15_method_1_code 77 = .ok (.astore 5, 2) := by decide +kernel
theorem d1_79 : decode prog_15_method_1_code 79 = .ok (.aload 5, 2) := by decide +kernel
theorem d1_81 : decode prog_15_method_1_code 81 = .ok (.arraylength, 1) := by decide +kernel
theorem d1_82 : decode prog_15_method_1_code 82 = .ok (.istore 6, 2) := by decide +kernel
theorem d1_84 : decode prog_15_method_1_code 84 = .ok (.iconst 0, 1) := by decide +kernel
theorem d1_85 : decode prog_15_method_1_code 85 = .ok (.istore 7, 2) := by decide +kernel
theorem d1_118 : decode prog_15_method_1_code 118 = .ok (.iconst 1, 1) := by decide +kernel
theorem d1_119 : decode prog_15_method_1_code 119 = .ok (.istore 5, 2) := by decide +kernel
theorem d1_152 : decode prog_15_method_1_code 152 = .ok (.iconst 0, 1) := by decide +kernel
theorem d1_153 : decode prog_15_method_1_code 153 = .ok (.istore 5, 2) := by decide +kernel
theorem d1_192 : decode prog_15_method_1_code 192 = .ok (.aload_n 0, 1) := by decide +kernel
theorem d1_193 : decode prog_15_method_1_code 193 = .ok (.getfield 30, 3) := by decide +kernel
theorem d1_196 : decode prog_15_method_1_code 196 = .ok (.iload_n 2, 1) := by decide +kernel
theorem d1_197 : decode prog_15_method_1_code 197 = .ok (.invokestatic 46, 3) := by decide +kernel
theorem pd__28_5bII_29_5bI : parseMethodDescriptor "([II)[I" = some ⟨[(.array .int), .int], some (.array .int)⟩ := by decide +kernel
theorem d1_200 : decode prog_15_method_1_code 200 = .ok (.astore 5, 2) := by decide +kernel
theorem d1_202 : decode prog_15_method_1_code 202 = .ok (.iconst 0, 1) := by decide +kernel
theorem d1_203 : decode prog_15_method_1_code 203 = .ok (.istore 6, 2) := by decide +kernel
theorem d1_250 : decode prog_15_method_1_code 250 = .ok (.return_, 1) := by decide +kernel
theorem pn_com_example_witgen_witgen_regex_Partition : plainName "com/example/witgen/witgen/regex/Partition" = true := by first | (simp [plainName, overriddenIn]; done) | decide +kernel
theorem ef_1 (m : MethodId) (x0 : Addr) (x1 : Addr) (x2 : Nat) : entryFrame m #[(.ref x0), (.ref x1), (.int (Int32.ofNat x2))] 9 = mkF m 0 #[.val (.ref x0), .val (.ref x1), .val (.int (Int32.ofNat x2)), .unset, .unset, .unset, .unset, .unset, .unset] [] := by first | (simp [entryFrame, mkF, argsToLocals, Value.category]; done) | rfl
def Q1 (Z : State) (ax : Addr) (ix : Addr) (cnt : Nat) (u1 : Value) (u2 : Value) (u3 : Value) (u4 : Value) (u5 : Value) (u6 : Value) (u7 : Value) (u9 : Value) (es : List Nat) (n0 : Nat) (Rst : RL) (v : Option Value) (h : Heap) (L : List Loc) : Prop := ∃ b1 : Addr, ∃ b2 : Addr, ∃ b3 : Addr, ∃ b4 : Addr, ∃ b5 : Addr, ∃ b6 : Addr, ∃ b7 : Addr, v = none ∧ Fr n0 L ∧ Rep Z n0 h ((ax, Obj "com/example/witgen/witgen/regex/Partition" [("elements", "[I", (.ref b1)), ("location", "[I", (.ref b2)), ("blockOf", "[I", (.ref b3)), ("start", "[I", (.ref b4)), ("end", "[I", (.ref b5)), ("marked", "[I", (.ref b6)), ("touched", "[I", (.ref b7)), ("blocks", "I", (.int (Int32.ofNat cnt))), ("touchedCount", "I", (.int (0 : Int32)))]) :: (b1, Ar .int (nl (pS4 es cnt).1)) :: (b2, Ar .int (nl (pS4 es cnt).2.1)) :: (b3, Ar .int (nl es)) :: (b4, Ar .int (nl (pSt es cnt))) :: (b5, Ar .int (nl (pEn es cnt))) :: (b6, Ar .int (nl (List.replicate (max es.length cnt) 0))) :: (b7, Ar .int (nl (List.replicate (max es.length cnt) 0))) :: (ix, Ar .int (nl es)) :: Rst)
set_option maxRecDepth 65536 in
set_option maxHeartbeats 40000000 in
theorem rm1 (l : Launch) (Z : State) (a0 : Array Value) (hw : ∀ d ∈ tables_1, d.before a0 Z = true) (ws : List Jvm.Cond) (ax : Addr) (ix : Addr) (cnt : Nat) (u1 : Value) (u2 : Value) (u3 : Value) (u4 : Value) (u5 : Value) (u6 : Value) (u7 : Value) (u9 : Value) (es : List Nat) (h0 : Heap) (n0 : Nat) (Rst : RL) (R0 : Rep Z n0 h0 ((ax, Obj "com/example/witgen/witgen/regex/Partition" [("elements", "[I", u1), ("location", "[I", u2), ("blockOf", "[I", u3), ("start", "[I", u4), ("end", "[I", u5), ("marked", "[I", u6), ("touched", "[I", u7), ("blocks", "I", u9), ("touchedCount", "I", (.int (0 : Int32)))]) :: (ix, Ar .int (nl es)) :: Rst)) (hl : es.length ≤ 4) (hc : cnt ≤ 8) (hc1 : 1 ≤ cnt) (hok0 : okC es cnt = true) :
    MetFree l (⟨"com/example/witgen/witgen/regex/Partition", "<init>", "([II)V"⟩ : MethodName) (head1 (Jvm.Cond.code (⟨"com/example/witgen/witgen/regex/Partition", "<init>", "([II)V"⟩ : MethodName) prog_15_method_1_code 9 none :: ws) ({ frames := 2, cells := 8, slots := 52, locals := 32 } : Room)) (fun a U => a = #[(.ref ax), (.ref ix), (.int (Int32.ofNat cnt))] ∧ Z.Warmed39 U.vm ∧ U.heap = h0) (fun _ _ _ _ _ => True) (fun _ U o U' => ∃ v L, o = .returned v ∧ Q1 Z ax ix cnt u1 u2 u3 u4 u5 u6 u7 u9 es n0 Rst v U'.heap L ∧ FrameEnd U o U' L ({ frames := 2, cells := 8, slots := 52, locals := 32 } : Room).cells ({ frames := 2, cells := 8, slots := 52, locals := 32 } : Room).slots) := by
  refine MetFree.of_bodySF (plainFor_of_name pn_com_example_witgen_witgen_regex_Partition) hisR ?_
  intro p e s m args below meth c s₁ Bd hml0 hP hK
  obtain ⟨rfl, hZ, hh⟩ := hP
  have hx := Bd.exec
  have hby := Bd.bytes
  have hml : c.maxLocals = 9 := hml0
  have hown : s.vm.findClass "com/example/witgen/witgen/regex/Partition" = some m.cls := findClass_of_methodNamed Bd.named
  have hnm := (name_of_methodNamed Bd.named Bd.method).1
  have X0 : Stand p l e ({ frames := 2, cells := 8, slots := 52, locals := 32 } : Room) s m #[(.ref ax), (.ref ix), (.int (Int32.ofNat cnt))] below meth c s₁ [] 0 0 := Stand.of_body Bd
  have e0 : s₁.heap = h0 := by rw [← hh, Bd.state]; rfl
  have N0 := Fr.nil n0
  have pre0 : ∀ t, Steps p.tables e below (s₁.setTop (mkF m 0 #[.val (.ref ax), .val (.ref ix), .val (.int (Int32.ofNat cnt)), .unset, .unset, .unset, .unset, .unset, .unset] [])) t → Steps p.tables e below (s₁.setTop (entryFrame m #[(.ref ax), (.ref ix), (.int (Int32.ofNat cnt))] 9)) t := fun t k => castTop (ef_1 m ax ix cnt) k
  have hok := (okC.parts hok0)
  have pre1 : ∀ t, Steps p.tables e below (s₁.setTop (mkF m 1 #[.val (.ref ax), .val (.ref ix), .val (.int (Int32.ofNat cnt)), .unset, .unset, .unset, .unset, .unset, .unset] [(.ref ax)])) t → Steps p.tables e below (s₁.setTop (entryFrame m #[(.ref ax), (.ref ix), (.int (Int32.ofNat cnt))] 9)) t := fun t k => pre0 t (by
    show Steps p.tables e below (s₁.setTop (mkF m 0 #[.val (.ref ax), .val (.ref ix), .val (.int (Int32.ofNat cnt)), .unset, .unset, .unset, .unset, .unset, .unset] [])) _
    refine XS.aloadN X0.here hx rfl (hb hby d1_0) rfl rfl ?_
    exact k)
  obtain ⟨T2, X2, e2, st2⟩ := initO X0 hx hZ hown (hw _ (List.mem_of_getElem? (i := 8) rfl)) (hw _ (List.mem_of_getElem? (i := 9) rfl)) (hw _ (List.mem_of_getElem? (i := 10) rfl)) e0 (g := (mkF m 1 #[.val (.ref ax), .val (.ref ix), .val (.int (Int32.ofNat cnt)), .unset, .unset, .unset, .unset, .unset, .unset] [(.ref ax)])) rfl (by rw [hml]; rfl) rfl (hb hby d1_1) (by decide) (W := 0) (by show 2 * 0 + _ ≤ _; exact Nat.le_of_eq rfl) (by decide)
  have pre3 : ∀ t, Steps p.tables e below (T2.setTop (mkF m 4 #[.val (.ref ax), .val (.ref ix), .val (.int (Int32.ofNat cnt)), .unset, .unset, .unset, .unset, .unset, .unset] [])) t → Steps p.tables e below (s₁.setTop (entryFrame m #[(.ref ax), (.ref ix), (.int (Int32.ofNat cnt))] 9)) t := fun t k => pre1 t (st2 t k)
  have pre4 : ∀ t, Steps p.tables e below (T2.setTop (mkF m 9 #[.val (.ref ax), .val (.ref ix), .val (.int (Int32.ofNat cnt)), .val (.int (Int32.ofNat es.length)), .unset, .unset, .unset, .unset, .unset] [(.int (Int32.ofNat cnt)), (.int (Int32.ofNat es.length))])) t → Steps p.tables e below (s₁.setTop (entryFrame m #[(.ref ax), (.ref ix), (.int (Int32.ofNat cnt))] 9)) t := fun t k => pre3 t (by
    show Steps p.tables e below (T2.setTop (mkF m 4 #[.val (.ref ax), .val (.ref ix), .val (.int (Int32.ofNat cnt)), .unset, .unset, .unset, .unset, .unset, .unset] [])) _
    refine XS.aloadN X2.here hx rfl (hb hby d1_4) rfl rfl ?_
    refine gLen X2 hx hZ e2 R0 1 rfl (g := (mkF m 5 #[.val (.ref ax), .val (.ref ix), .val (.int (Int32.ofNat cnt)), .unset, .unset, .unset, .unset, .unset, .unset] [(.ref ix)])) rfl rfl (hb hby d1_5) (z := (Int32.ofNat es.length)) (by rw [nl_len]) _ ?_
    refine XS.istoreN X2.here hx rfl (hb hby d1_6) rfl (l' := #[.val (.ref ax), .val (.ref ix), .val (.int (Int32.ofNat cnt)), .val (.int (Int32.ofNat es.length)), .unset, .unset, .unset, .unset, .unset]) rfl ?_
    refine XS.iloadN X2.here hx rfl (hb hby d1_7) rfl ?_
    refine XS.iloadN X2.here hx rfl (hb hby d1_8) rfl ?_
    exact k)
  obtain ⟨_, _, ⟨T5, L5, k5, n5⟩, -, X5, ⟨Lc5, hQ5, l5, y5, z5⟩, st5⟩ := Jvm.LawKit.callS X2 hx (y := (⟨"java/lang/Math", "max", "(II)I"⟩ : MethodName)) hown (mvT hZ (hw _ (List.mem_of_getElem? (i := 11) rfl))) (mvT hZ (hw _ (List.mem_of_getElem? (i := 12) rfl))) (mvT hZ (hw _ (List.mem_of_getElem? (i := 13) rfl))) (mvT hZ (hw _ (List.mem_of_getElem? (i := 14) rfl))) (by decide) (backOf (W := 0) (rm3 l Z a0 hw [] (Int32.ofNat es.length) (Int32.ofNat cnt)  h0 n0 _ R0 ) hZ (hw _ (List.mem_of_getElem? (i := 14) rfl)) (hw _ (List.mem_of_getElem? (i := 13) rfl)) (by decide) (by decide)) (g := (mkF m 9 #[.val (.ref ax), .val (.ref ix), .val (.int (Int32.ofNat cnt)), .val (.int (Int32.ofNat es.length)), .unset, .unset, .unset, .unset, .unset] [(.int (Int32.ofNat cnt)), (.int (Int32.ofNat es.length))])) rfl (by rw [hml]; rfl) (argsL := [(.int (Int32.ofNat es.length)), (.int (Int32.ofNat cnt))]) (rest := []) (lenOf pd__28II_29I rfl) rfl (by show 2 * 0 + _ ≤ _; exact Nat.le_of_eq rfl) (hb hby d1_9) (fun _ _ => ⟨rfl, e2, (by decide : 0 + 0 ≤ _), (by decide : 0 + 0 ≤ _)⟩)
  dsimp only [Pt.U, Pt.locs, Pt.cells, Pt.slots] at X5 l5 y5 z5 st5 hQ5
  subst y5 z5
  obtain ⟨rfl, N5q, R5⟩ := hQ5
  have N5 : Fr n0 L5 := by rw [l5]; exact Fr.app N0 N5q
  replace R5 : Rep Z n0 T5.heap ((ax, Obj "com/example/witgen/witgen/regex/Partition" [("elements", "[I", u1), ("location", "[I", u2), ("blockOf", "[I", u3), ("start", "[I", u4), ("end", "[I", u5), ("marked", "[I", u6), ("touched", "[I", u7), ("blocks", "I", u9), ("touchedCount", "I", (.int (0 : Int32)))]) :: (ix, Ar .int (nl es)) :: Rst) := R5
  have pre6 : ∀ t, Steps p.tables e below (T5.setTop (mkF m 12 #[.val (.ref ax), .val (.ref ix), .val (.int (Int32.ofNat cnt)), .val (.int (Int32.ofNat es.length)), .unset, .unset, .unset, .unset, .unset] [(.int (F3 (Int32.ofNat es.length) (Int32.ofNat cnt)))])) t → Steps p.tables e below (s₁.setTop (entryFrame m #[(.ref ax), (.ref ix), (.int (Int32.ofNat cnt))] 9)) t := fun t k => pre4 t (st5 t k)
  rw [own_max (by omega) (by omega)] at pre6
  have pre7 : ∀ t, Steps p.tables e below (T5.setTop (mkF m 16 #[.val (.ref ax), .val (.ref ix), .val (.int (Int32.ofNat cnt)), .val (.int (Int32.ofNat es.length)), .val (.int (Int32.ofNat (max es.length cnt))), .unset, .unset, .unset, .unset] [(.int (Int32.ofNat es.length)), (.ref ax)])) t → Steps p.tables e below (s₁.setTop (entryFrame m #[(.ref ax), (.ref ix), (.int (Int32.ofNat cnt))] 9)) t := fun t k => pre6 t (by
    show Steps p.tables e below (T5.setTop (mkF m 12 #[.val (.ref ax), .val (.ref ix), .val (.int (Int32.ofNat cnt)), .val (.int (Int32.ofNat es.length)), .unset, .unset, .unset, .unset, .unset] [(.int (Int32.ofNat (max es.length cnt)))])) _
    refine XS.istore X5.here hx rfl (hb hby d1_12) rfl (l' := #[.val (.ref ax), .val (.ref ix), .val (.int (Int32.ofNat cnt)), .val (.int (Int32.ofNat es.length)), .val (.int (Int32.ofNat (max es.length cnt))), .unset, .unset, .unset, .unset]) rfl ?_
    refine XS.aloadN X5.here hx rfl (hb hby d1_14) rfl rfl ?_
    refine XS.iloadN X5.here hx rfl (hb hby d1_15) rfl ?_
    exact k)
  obtain ⟨T8, h8, b8, X8, e8, R8, st8⟩ := gNewP X5 hx hZ (hw _ (List.mem_of_getElem? (i := 0) rfl)) rfl R5 (g := (mkF m 16 #[.val (.ref ax), .val (.ref ix), .val (.int (Int32.ofNat cnt)), .val (.int (Int32.ofNat es.length)), .val (.int (Int32.ofNat (max es.length cnt))), .unset, .unset, .unset, .unset] [(.int (Int32.ofNat es.length)), (.ref ax)])) rfl (hb hby d1_16) rfl (n_nn (by omega)) 4 (by rw [n_ix (by omega)]; omega) (by decide) (by decide) (by decide) (vs := (nl (List.replicate es.length 0))) (by rw [n_ix (by omega)]; exact n_rep _)
  replace R8 : Rep Z n0 h8 ((b8, Ar .int (nl (List.replicate es.length 0))) :: (ax, Obj "com/example/witgen/witgen/regex/Partition" [("elements", "[I", u1), ("location", "[I", u2), ("blockOf", "[I", u3), ("start", "[I", u4), ("end", "[I", u5), ("marked", "[I", u6), ("touched", "[I", u7), ("blocks", "I", u9), ("touchedCount", "I", (.int (0 : Int32)))]) :: (ix, Ar .int (nl es)) :: Rst) := R8
  have pre9 : ∀ t, Steps p.tables e below (T8.setTop (mkF m 18 #[.val (.ref ax), .val (.ref ix), .val (.int (Int32.ofNat cnt)), .val (.int (Int32.ofNat es.length)), .val (.int (Int32.ofNat (max es.length cnt))), .unset, .unset, .unset, .unset] [(.ref b8), (.ref ax)])) t → Steps p.tables e below (s₁.setTop (entryFrame m #[(.ref ax), (.ref ix), (.int (Int32.ofNat cnt))] 9)) t := fun t k => pre7 t (st8 t k)
  obtain ⟨T10, h10, ls10, X10, e10, N10, R10, st10⟩ := gPut X8 hx hZ hown (host := "") (Or.inl (hw _ (List.mem_of_getElem? (i := 15) rfl))) e8 N5 R8 1 0 rfl rfl (Or.inr ⟨(hw _ (List.mem_of_getElem? (i := 16) rfl)), rfl, hnm⟩) (hw _ (List.mem_of_getElem? (i := 3) rfl)) (ty := (.array .int)) (by decide) rfl rfl (g := (mkF m 18 #[.val (.ref ax), .val (.ref ix), .val (.int (Int32.ofNat cnt)), .val (.int (Int32.ofNat es.length)), .val (.int (Int32.ofNat (max es.length cnt))), .unset, .unset, .unset, .unset] [(.ref b8), (.ref ax)])) rfl rfl (hb hby d1_18)
  replace R10 : Rep Z n0 h10 ((b8, Ar .int (nl (List.replicate es.length 0))) :: (ax, Obj "com/example/witgen/witgen/regex/Partition" [("elements", "[I", (.ref b8)), ("location", "[I", u2), ("blockOf", "[I", u3), ("start", "[I", u4), ("end", "[I", u5), ("marked", "[I", u6), ("touched", "[I", u7), ("blocks", "I", u9), ("touchedCount", "I", (.int (0 : Int32)))]) :: (ix, Ar .int (nl es)) :: Rst) := R10
  have pre11 : ∀ t, Steps p.tables e below (T10.setTop (mkF m 21 #[.val (.ref ax), .val (.ref ix), .val (.int (Int32.ofNat cnt)), .val (.int (Int32.ofNat es.length)), .val (.int (Int32.ofNat (max es.length cnt))), .unset, .unset, .unset, .unset] [])) t → Steps p.tables e below (s₁.setTop (entryFrame m #[(.ref ax), (.ref ix), (.int (Int32.ofNat cnt))] 9)) t := fun t k => pre9 t (st10 t k)
  have pre12 : ∀ t, Steps p.tables e below (T10.setTop (mkF m 23 #[.val (.ref ax), .val (.ref ix), .val (.int (Int32.ofNat cnt)), .val (.int (Int32.ofNat es.length)), .val (.int (Int32.ofNat (max es.length cnt))), .unset, .unset, .unset, .unset] [(.int (Int32.ofNat es.length)), (.ref ax)])) t → Steps p.tables e below (s₁.setTop (entryFrame m #[(.ref ax), (.ref ix), (.int (Int32.ofNat cnt))] 9)) t := fun t k => pre11 t (by
    show Steps p.tables e below (T10.setTop (mkF m 21 #[.val (.ref ax), .val (.ref ix), .val (.int (Int32.ofNat cnt)), .val (.int (Int32.ofNat es.length)), .val (.int (Int32.ofNat (max es.length cnt))), .unset, .unset, .unset, .unset] [])) _
    refine XS.aloadN X10.here hx rfl (hb hby d1_21) rfl rfl ?_
    refine XS.iloadN X10.here hx rfl (hb hby d1_22) rfl ?_
    exact k)
  obtain ⟨T13, h13, b13, X13, e13, R13, st13⟩ := gNewP X10 hx hZ (hw _ (List.mem_of_getElem? (i := 0) rfl)) e10 R10 (g := (mkF m 23 #[.val (.ref ax), .val (.ref ix), .val (.int (Int32.ofNat cnt)), .val (.int (Int32.ofNat es.length)), .val (.int (Int32.ofNat (max es.length cnt))), .unset, .unset, .unset, .unset] [(.int (Int32.ofNat es.length)), (.ref ax)])) rfl (hb hby d1_23) rfl (n_nn (by omega)) 4 (by rw [n_ix (by omega)]; omega) (by decide) (by decide) (by decide) (vs := (nl (List.replicate es.length 0))) (by rw [n_ix (by omega)]; exact n_rep _)
  replace R13 : Rep Z n0 h13 ((b13, Ar .int (nl (List.replicate es.length 0))) :: (b8, Ar .int (nl (List.replicate es.length 0))) :: (ax, Obj "com/example/witgen/witgen/regex/Partition" [("elements", "[I", (.ref b8)), ("location", "[I", u2), ("blockOf", "[I", u3), ("start", "[I", u4), ("end", "[I", u5), ("marked", "[I", u6), ("touched", "[I", u7), ("blocks", "I", u9), ("touchedCount", "I", (.int (0 : Int32)))]) :: (ix, Ar .int (nl es)) :: Rst) := R13
  have pre14 : ∀ t, Steps p.tables e below (T13.setTop (mkF m 25 #[.val (.ref ax), .val (.ref ix), .val (.int (Int32.ofNat cnt)), .val (.int (Int32.ofNat es.length)), .val (.int (Int32.ofNat (max es.length cnt))), .unset, .unset, .unset, .unset] [(.ref b13), (.ref ax)])) t → Steps p.tables e below (s₁.setTop (entryFrame m #[(.ref ax), (.ref ix), (.int (Int32.ofNat cnt))] 9)) t := fun t k => pre12 t (st13 t k)
  obtain ⟨T15, h15, ls15, X15, e15, N15, R15, st15⟩ := gPut X13 hx hZ hown (host := "") (Or.inl (hw _ (List.mem_of_getElem? (i := 17) rfl))) e13 N10 R13 2 1 rfl rfl (Or.inr ⟨(hw _ (List.mem_of_getElem? (i := 18) rfl)), rfl, hnm⟩) (hw _ (List.mem_of_getElem? (i := 3) rfl)) (ty := (.array .int)) (by decide) rfl rfl (g := (mkF m 25 #[.val (.ref ax), .val (.ref ix), .val (.int (Int32.ofNat cnt)), .val (.int (Int32.ofNat es.length)), .val (.int (Int32.ofNat (max es.length cnt))), .unset, .unset, .unset, .unset] [(.ref b13), (.ref ax)])) rfl rfl (hb hby d1_25)
  replace R15 : Rep Z n0 h15 ((b13, Ar .int (nl (List.replicate es.length 0))) :: (b8, Ar .int (nl (List.replicate es.length 0))) :: (ax, Obj "com/example/witgen/witgen/regex/Partition" [("elements", "[I", (.ref b8)), ("location", "[I", (.ref b13)), ("blockOf", "[I", u3), ("start", "[I", u4), ("end", "[I", u5), ("marked", "[I", u6), ("touched", "[I", u7), ("blocks", "I", u9), ("touchedCount", "I", (.int (0 : Int32)))]) :: (ix, Ar .int (nl es)) :: Rst) := R15
  have pre16 : ∀ t, Steps p.tables e below (T15.setTop (mkF m 28 #[.val (.ref ax), .val (.ref ix), .val (.int (Int32.ofNat cnt)), .val (.int (Int32.ofNat es.length)), .val (.int (Int32.ofNat (max es.length cnt))), .unset, .unset, .unset, .unset] [])) t → Steps p.tables e below (s₁.setTop (entryFrame m #[(.ref ax), (.ref ix), (.int (Int32.ofNat cnt))] 9)) t := fun t k => pre14 t (st15 t k)
  have pre17 : ∀ t, Steps p.tables e below (T15.setTop (mkF m 30 #[.val (.ref ax), .val (.ref ix), .val (.int (Int32.ofNat cnt)), .val (.int (Int32.ofNat es.length)), .val (.int (Int32.ofNat (max es.length cnt))), .unset, .unset, .unset, .unset] [(.ref ix), (.ref ax)])) t → Steps p.tables e below (s₁.setTop (entryFrame m #[(.ref ax), (.ref ix), (.int (Int32.ofNat cnt))] 9)) t := fun t k => pre16 t (by
    show Steps p.tables e below (T15.setTop (mkF m 28 #[.val (.ref ax), .val (.ref ix), .val (.int (Int32.ofNat cnt)), .val (.int (Int32.ofNat es.length)), .val (.int (Int32.ofNat (max es.length cnt))), .unset, .unset, .unset, .unset] [])) _
    refine XS.aloadN X15.here hx rfl (hb hby d1_28) rfl rfl ?_
    refine XS.aloadN X15.here hx rfl (hb hby d1_29) rfl rfl ?_
    exact k)
  obtain ⟨T18, h18, b18, X18, e18, R18, E18, st18⟩ := gClone X15 hx hZ hown (hw _ (List.mem_of_getElem? (i := 19) rfl)) (hw _ (List.mem_of_getElem? (i := 20) rfl)) (hw _ (List.mem_of_getElem? (i := 24) rfl)) (hw _ (List.mem_of_getElem? (i := 22) rfl)) (hw _ (List.mem_of_getElem? (i := 23) rfl)) (hw _ (List.mem_of_getElem? (i := 25) rfl)) e15 R15 3 rfl (show _ = "[I" from rfl) (g := (mkF m 30 #[.val (.ref ax), .val (.ref ix), .val (.int (Int32.ofNat cnt)), .val (.int (Int32.ofNat es.length)), .val (.int (Int32.ofNat (max es.length cnt))), .unset, .unset, .unset, .unset] [(.ref ix), (.ref ax)])) rfl (by rw [hml]; rfl) rfl (hb hby d1_30) (by decide) (W := 1) 4 (by show 2 * 0 + _ ≤ _; exact Nat.le_of_eq rfl) (by decide) (by rw [nl_len]; omega) (by decide) (by decide)
  have pre19 : ∀ t, Steps p.tables e below (T18.setTop (mkF m 33 #[.val (.ref ax), .val (.ref ix), .val (.int (Int32.ofNat cnt)), .val (.int (Int32.ofNat es.length)), .val (.int (Int32.ofNat (max es.length cnt))), .unset, .unset, .unset, .unset] [(.ref b18), (.ref ax)])) t → Steps p.tables e below (s₁.setTop (entryFrame m #[(.ref ax), (.ref ix), (.int (Int32.ofNat cnt))] 9)) t := fun t k => pre17 t (st18 t k)
  obtain ⟨T20, X20, e20, st20⟩ := gCast X18 hx hZ hown (hw _ (List.mem_of_getElem? (i := 26) rfl)) e18 E18 (g := (mkF m 33 #[.val (.ref ax), .val (.ref ix), .val (.int (Int32.ofNat cnt)), .val (.int (Int32.ofNat es.length)), .val (.int (Int32.ofNat (max es.length cnt))), .unset, .unset, .unset, .unset] [(.ref b18), (.ref ax)])) rfl rfl (hb hby d1_33)
  have pre21 : ∀ t, Steps p.tables e below (T20.setTop (mkF m 36 #[.val (.ref ax), .val (.ref ix), .val (.int (Int32.ofNat cnt)), .val (.int (Int32.ofNat es.length)), .val (.int (Int32.ofNat (max es.length cnt))), .unset, .unset, .unset, .unset] [(.ref b18), (.ref ax)])) t → Steps p.tables e below (s₁.setTop (entryFrame m #[(.ref ax), (.ref ix), (.int (Int32.ofNat cnt))] 9)) t := fun t k => pre19 t (st20 t k)
  obtain ⟨T22, h22, ls22, X22, e22, N22, R22, st22⟩ := gPut X20 hx hZ hown (host := "") (Or.inl (hw _ (List.mem_of_getElem? (i := 28) rfl))) e20 N15 R18 3 2 rfl rfl (Or.inr ⟨(hw _ (List.mem_of_getElem? (i := 29) rfl)), rfl, hnm⟩) (hw _ (List.mem_of_getElem? (i := 3) rfl)) (ty := (.array .int)) (by decide) rfl rfl (g := (mkF m 36 #[.val (.ref ax), .val (.ref ix), .val (.int (Int32.ofNat cnt)), .val (.int (Int32.ofNat es.length)), .val (.int (Int32.ofNat (max es.length cnt))), .unset, .unset, .unset, .unset] [(.ref b18), (.ref ax)])) rfl rfl (hb hby d1_36)
  replace R22 : Rep Z n0 h22 ((b18, Ar .int (nl es)) :: (b13, Ar .int (nl (List.replicate es.length 0))) :: (b8, Ar .int (nl (List.replicate es.length 0))) :: (ax, Obj "com/example/witgen/witgen/regex/Partition" [("elements", "[I", (.ref b8)), ("location", "[I", (.ref b13)), ("blockOf", "[I", (.ref b18)), ("start", "[I", u4), ("end", "[I", u5), ("marked", "[I", u6), ("touched", "[I", u7), ("blocks", "I", u9), ("touchedCount", "I", (.int (0 : Int32)))]) :: (ix, Ar .int (nl es)) :: Rst) := R22
  have pre23 : ∀ t, Steps p.tables e below (T22.setTop (mkF m 39 #[.val (.ref ax), .val (.ref ix), .val (.int (Int32.ofNat cnt)), .val (.int (Int32.ofNat es.length)), .val (.int (Int32.ofNat (max es.length cnt))), .unset, .unset, .unset, .unset] [])) t → Steps p.tables e below (s₁.setTop (entryFrame m #[(.ref ax), (.ref ix), (.int (Int32.ofNat cnt))] 9)) t := fun t k => pre21 t (st22 t k)
  have pre24 : ∀ t, Steps p.tables e below (T22.setTop (mkF m 42 #[.val (.ref ax), .val (.ref ix), .val (.int (Int32.ofNat cnt)), .val (.int (Int32.ofNat es.length)), .val (.int (Int32.ofNat (max es.length cnt))), .unset, .unset, .unset, .unset] [(.int (Int32.ofNat (max es.length cnt))), (.ref ax)])) t → Steps p.tables e below (s₁.setTop (entryFrame m #[(.ref ax), (.ref ix), (.int (Int32.ofNat cnt))] 9)) t := fun t k => pre23 t (by
    show Steps p.tables e below (T22.setTop (mkF m 39 #[.val (.ref ax), .val (.ref ix), .val (.int (Int32.ofNat cnt)), .val (.int (Int32.ofNat es.length)), .val (.int (Int32.ofNat (max es.length cnt))), .unset, .unset, .unset, .unset] [])) _
    refine XS.aloadN X22.here hx rfl (hb hby d1_39) rfl rfl ?_
    refine XS.iload X22.here hx rfl (hb hby d1_40) rfl ?_
    exact k)
  obtain ⟨T25, h25, b25, X25, e25, R25, st25⟩ := gNewP X22 hx hZ (hw _ (List.mem_of_getElem? (i := 0) rfl)) e22 R22 (g := (mkF m 42 #[.val (.ref ax), .val (.ref ix), .val (.int (Int32.ofNat cnt)), .val (.int (Int32.ofNat es.length)), .val (.int (Int32.ofNat (max es.length cnt))), .unset, .unset, .unset, .unset] [(.int (Int32.ofNat (max es.length cnt))), (.ref ax)])) rfl (hb hby d1_42) rfl (n_nn (by omega)) 8 (by rw [n_ix (by omega)]; omega) (by decide) (by decide) (by decide) (vs := (nl (List.replicate (max es.length cnt) 0))) (by rw [n_ix (by omega)]; exact n_rep _)
  replace R25 : Rep Z n0 h25 ((b25, Ar .int (nl (List.replicate (max es.length cnt) 0))) :: (b18, Ar .int (nl es)) :: (b13, Ar .int (nl (List.replicate es.length 0))) :: (b8, Ar .int (nl (List.replicate es.length 0))) :: (ax, Obj "com/example/witgen/witgen/regex/Partition" [("elements", "[I", (.ref b8)), ("location", "[I", (.ref b13)), ("blockOf", "[I", (.ref b18)), ("start", "[I", u4), ("end", "[I", u5), ("marked", "[I", u6), ("touched", "[I", u7), ("blocks", "I", u9), ("touchedCount", "I", (.int (0 : Int32)))]) :: (ix, Ar .int (nl es)) :: Rst) := R25
  have pre26 : ∀ t, Steps p.tables e below (T25.setTop (mkF m 44 #[.val (.ref ax), .val (.ref ix), .val (.int (Int32.ofNat cnt)), .val (.int (Int32.ofNat es.length)), .val (.int (Int32.ofNat (max es.length cnt))), .unset, .unset, .unset, .unset] [(.ref b25), (.ref ax)])) t → Steps p.tables e below (s₁.setTop (entryFrame m #[(.ref ax), (.ref ix), (.int (Int32.ofNat cnt))] 9)) t := fun t k => pre24 t (st25 t k)
  obtain ⟨T27, h27, ls27, X27, e27, N27, R27, st27⟩ := gPut X25 hx hZ hown (host := "") (Or.inl (hw _ (List.mem_of_getElem? (i := 30) rfl))) e25 N22 R25 4 3 rfl rfl (Or.inr ⟨(hw _ (List.mem_of_getElem? (i := 31) rfl)), rfl, hnm⟩) (hw _ (List.mem_of_getElem? (i := 3) rfl)) (ty := (.array .int)) (by decide) rfl rfl (g := (mkF m 44 #[.val (.ref ax), .val (.ref ix), .val (.int (Int32.ofNat cnt)), .val (.int (Int32.ofNat es.length)), .val (.int (Int32.ofNat (max es.length cnt))), .unset, .unset, .unset, .unset] [(.ref b25), (.ref ax)])) rfl rfl (hb hby d1_44)
  replace R27 : Rep Z n0 h27 ((b25, Ar .int (nl (List.replicate (max es.length cnt) 0))) :: (b18, Ar .int (nl es)) :: (b13, Ar .int (nl (List.replicate es.length 0))) :: (b8, Ar .int (nl (List.replicate es.length 0))) :: (ax, Obj "com/example/witgen/witgen/regex/Partition" [("elements", "[I", (.ref b8)), ("location", "[I", (.ref b13)), ("blockOf", "[I", (.ref b18)), ("start", "[I", (.ref b25)), ("end", "[I", u5), ("marked", "[I", u6), ("touched", "[I", u7), ("blocks", "I", u9), ("touchedCount", "I", (.int (0 : Int32)))]) :: (ix, Ar .int (nl es)) :: Rst) := R27
  have pre28 : ∀ t, Steps p.tables e below (T27.setTop (mkF m 47 #[.val (.ref ax), .val (.ref ix), .val (.int (Int32.ofNat cnt)), .val (.int (Int32.ofNat es.length)), .val (.int (Int32.ofNat (max es.length cnt))), .unset, .unset, .unset, .unset] [])) t → Steps p.tables e below (s₁.setTop (entryFrame m #[(.ref ax), (.ref ix), (.int (Int32.ofNat cnt))] 9)) t := fun t k => pre26 t (st27 t k)
  have pre29 : ∀ t, Steps p.tables e below (T27.setTop (mkF m 50 #[.val (.ref ax), .val (.ref ix), .val (.int (Int32.ofNat cnt)), .val (.int (Int32.ofNat es.length)), .val (.int (Int32.ofNat (max es.length cnt))), .unset, .unset, .unset, .unset] [(.int (Int32.ofNat (max es.length cnt))), (.ref ax)])) t → Steps p.tables e below (s₁.setTop (entryFrame m #[(.ref ax), (.ref ix), (.int (Int32.ofNat cnt))] 9)) t := fun t k => pre28 t (by
    show Steps p.tables e below (T27.setTop (mkF m 47 #[.val (.ref ax), .val (.ref ix), .val (.int (Int32.ofNat cnt)), .val (.int (Int32.ofNat es.length)), .val (.int (Int32.ofNat (max es.length cnt))), .unset, .unset, .unset, .unset] [])) _
    refine XS.aloadN X27.here hx rfl (hb hby d1_47) rfl rfl ?_
    refine XS.iload X27.here hx rfl (hb hby d1_48) rfl ?_
    exact k)
  obtain ⟨T30, h30, b30, X30, e30, R30, st30⟩ := gNewP X27 hx hZ (hw _ (List.mem_of_getElem? (i := 0) rfl)) e27 R27 (g := (mkF m 50 #[.val (.ref ax), .val (.ref ix), .val (.int (Int32.ofNat cnt)), .val (.int (Int32.ofNat es.length)), .val (.int (Int32.ofNat (max es.length cnt))), .unset, .unset, .unset, .unset] [(.int (Int32.ofNat (max es.length cnt))), (.ref ax)])) rfl (hb hby d1_50) rfl (n_nn (by omega)) 8 (by rw [n_ix (by omega)]; omega) (by decide) (by decide) (by decide) (vs := (nl (List.replicate (max es.length cnt) 0))) (by rw [n_ix (by omega)]; exact n_rep _)
  replace R30 : Rep Z n0 h30 ((b30, Ar .int (nl (List.replicate (max es.length cnt) 0))) :: (b25, Ar .int (nl (List.replicate (max es.length cnt) 0))) :: (b18, Ar .int (nl es)) :: (b13, Ar .int (nl (List.replicate es.length 0))) :: (b8, Ar .int (nl (List.replicate es.length 0))) :: (ax, Obj "com/example/witgen/witgen/regex/Partition" [("elements", "[I", (.ref b8)), ("location", "[I", (.ref b13)), ("blockOf", "[I", (.ref b18)), ("start", "[I", (.ref b25)), ("end", "[I", u5), ("marked", "[I", u6), ("touched", "[I", u7), ("blocks", "I", u9), ("touchedCount", "I", (.int (0 : Int32)))]) :: (ix, Ar .int (nl es)) :: Rst) := R30
  have pre31 : ∀ t, Steps p.tables e below (T30.setTop (mkF m 52 #[.val (.ref ax), .val (.ref ix), .val (.int (Int32.ofNat cnt)), .val (.int (Int32.ofNat es.length)), .val (.int (Int32.ofNat (max es.length cnt))), .unset, .unset, .unset, .unset] [(.ref b30), (.ref ax)])) t → Steps p.tables e below (s₁.setTop (entryFrame m #[(.ref ax), (.ref ix), (.int (Int32.ofNat cnt))] 9)) t := fun t k => pre29 t (st30 t k)
  obtain ⟨T32, h32, ls32, X32, e32, N32, R32, st32⟩ := gPut X30 hx hZ hown (host := "") (Or.inl (hw _ (List.mem_of_getElem? (i := 32) rfl))) e30 N27 R30 5 4 rfl rfl (Or.inr ⟨(hw _ (List.mem_of_getElem? (i := 33) rfl)), rfl, hnm⟩) (hw _ (List.mem_of_getElem? (i := 3) rfl)) (ty := (.array .int)) (by decide) rfl rfl (g := (mkF m 52 #[.val (.ref ax), .val (.ref ix), .val (.int (Int32.ofNat cnt)), .val (.int (Int32.ofNat es.length)), .val (.int (Int32.ofNat (max es.length cnt))), .unset, .unset, .unset, .unset] [(.ref b30), (.ref ax)])) rfl rfl (hb hby d1_52)
  replace R32 : Rep Z n0 h32 ((b30, Ar .int (nl (List.replicate (max es.length cnt) 0))) :: (b25, Ar .int (nl (List.replicate (max es.length cnt) 0))) :: (b18, Ar .int (nl es)) :: (b13, Ar .int (nl (List.replicate es.length 0))) :: (b8, Ar .int (nl (List.replicate es.length 0))) :: (ax, Obj "com/example/witgen/witgen/regex/Partition" [("elements", "[I", (.ref b8)), ("location", "[I", (.ref b13)), ("blockOf", "[I", (.ref b18)), ("start", "[I", (.ref b25)), ("end", "[I", (.ref b30)), ("marked", "[I", u6), ("touched", "[I", u7), ("blocks", "I", u9), ("touchedCount", "I", (.int (0 : Int32)))]) :: (ix, Ar .int (nl es)) :: Rst) := R32
  have pre33 : ∀ t, Steps p.tables e below (T32.setTop (mkF m 55 #[.val (.ref ax), .val (.ref ix), .val (.int (Int32.ofNat cnt)), .val (.int (Int32.ofNat es.length)), .val (.int (Int32.ofNat (max es.length cnt))), .unset, .unset, .unset, .unset] [])) t → Steps p.tables e below (s₁.setTop (entryFrame m #[(.ref ax), (.ref ix), (.int (Int32.ofNat cnt))] 9)) t := fun t k => pre31 t (st32 t k)
  have pre34 : ∀ t, Steps p.tables e below (T32.setTop (mkF m 58 #[.val (.ref ax), .val (.ref ix), .val (.int (Int32.ofNat cnt)), .val (.int (Int32.ofNat es.length)), .val (.int (Int32.ofNat (max es.length cnt))), .unset, .unset, .unset, .unset] [(.int (Int32.ofNat (max es.length cnt))), (.ref ax)])) t → Steps p.tables e below (s₁.setTop (entryFrame m #[(.ref ax), (.ref ix), (.int (Int32.ofNat cnt))] 9)) t := fun t k => pre33 t (by
    show Steps p.tables e below (T32.setTop (mkF m 55 #[.val (.ref ax), .val (.ref ix), .val (.int (Int32.ofNat cnt)), .val (.int (Int32.ofNat es.length)), .val (.int (Int32.ofNat (max es.length cnt))), .unset, .unset, .unset, .unset] [])) _
    refine XS.aloadN X32.here hx rfl (hb hby d1_55) rfl rfl ?_
    refine XS.iload X32.here hx rfl (hb hby d1_56) rfl ?_
    exact k)
  obtain ⟨T35, h35, b35, X35, e35, R35, st35⟩ := gNewP X32 hx hZ (hw _ (List.mem_of_getElem? (i := 0) rfl)) e32 R32 (g := (mkF m 58 #[.val (.ref ax), .val (.ref ix), .val (.int (Int32.ofNat cnt)), .val (.int (Int32.ofNat es.length)), .val (.int (Int32.ofNat (max es.length cnt))), .unset, .unset, .unset, .unset] [(.int (Int32.ofNat (max es.length cnt))), (.ref ax)])) rfl (hb hby d1_58) rfl (n_nn (by omega)) 8 (by rw [n_ix (by omega)]; omega) (by decide) (by decide) (by decide) (vs := (nl (List.replicate (max es.length cnt) 0))) (by rw [n_ix (by omega)]; exact n_rep _)
  replace R35 : Rep Z n0 h35 ((b35, Ar .int (nl (List.replicate (max es.length cnt) 0))) :: (b30, Ar .int (nl (List.replicate (max es.length cnt) 0))) :: (b25, Ar .int (nl (List.replicate (max es.length cnt) 0))) :: (b18, Ar .int (nl es)) :: (b13, Ar .int (nl (List.replicate es.length 0))) :: (b8, Ar .int (nl (List.replicate es.length 0))) :: (ax, Obj "com/example/witgen/witgen/regex/Partition" [("elements", "[I", (.ref b8)), ("location", "[I", (.ref b13)), ("blockOf", "[I", (.ref b18)), ("start", "[I", (.ref b25)), ("end", "[I", (.ref b30)), ("marked", "[I", u6), ("touched", "[I", u7), ("blocks", "I", u9), ("touchedCount", "I", (.int (0 : Int32)))]) :: (ix, Ar .int (nl es)) :: Rst) := R35
  have pre36 : ∀ t, Steps p.tables e below (T35.setTop (mkF m 60 #[.val (.ref ax), .val (.ref ix), .val (.int (Int32.ofNat cnt)), .val (.int (Int32.ofNat es.length)), .val (.int (Int32.ofNat (max es.length cnt))), .unset, .unset, .unset, .unset] [(.ref b35), (.ref ax)])) t → Steps p.tables e below (s₁.setTop (entryFrame m #[(.ref ax), (.ref ix), (.int (Int32.ofNat cnt))] 9)) t := fun t k => pre34 t (st35 t k)
  obtain ⟨T37, h37, ls37, X37, e37, N37, R37, st37⟩ := gPut X35 hx hZ hown (host := "") (Or.inl (hw _ (List.mem_of_getElem? (i := 34) rfl))) e35 N32 R35 6 5 rfl rfl (Or.inr ⟨(hw _ (List.mem_of_getElem? (i := 35) rfl)), rfl, hnm⟩) (hw _ (List.mem_of_getElem? (i := 3) rfl)) (ty := (.array .int)) (by decide) rfl rfl (g := (mkF m 60 #[.val (.ref ax), .val (.ref ix), .val (.int (Int32.ofNat cnt)), .val (.int (Int32.ofNat es.length)), .val (.int (Int32.ofNat (max es.length cnt))), .unset, .unset, .unset, .unset] [(.ref b35), (.ref ax)])) rfl rfl (hb hby d1_60)
  replace R37 : Rep Z n0 h37 ((b35, Ar .int (nl (List.replicate (max es.length cnt) 0))) :: (b30, Ar .int (nl (List.replicate (max es.length cnt) 0))) :: (b25, Ar .int (nl (List.replicate (max es.length cnt) 0))) :: (b18, Ar .int (nl es)) :: (b13, Ar .int (nl (List.replicate es.length 0))) :: (b8, Ar .int (nl (List.replicate es.length 0))) :: (ax, Obj "com/example/witgen/witgen/regex/Partition" [("elements", "[I", (.ref b8)), ("location", "[I", (.ref b13)), ("blockOf", "[I", (.ref b18)), ("start", "[I", (.ref b25)), ("end", "[I", (.ref b30)), ("marked", "[I", (.ref b35)), ("touched", "[I", u7), ("blocks", "I", u9), ("touchedCount", "I", (.int (0 : Int32)))]) :: (ix, Ar .int (nl es)) :: Rst) := R37
  have pre38 : ∀ t, Steps p.tables e below (T37.setTop (mkF m 63 #[.val (.ref ax), .val (.ref ix), .val (.int (Int32.ofNat cnt)), .val (.int (Int32.ofNat es.length)), .val (.int (Int32.ofNat (max es.length cnt))), .unset, .unset, .unset, .unset] [])) t → Steps p.tables e below (s₁.setTop (entryFrame m #[(.ref ax), (.ref ix), (.int (Int32.ofNat cnt))] 9)) t := fun t k => pre36 t (st37 t k)
  have pre39 : ∀ t, Steps p.tables e below (T37.setTop (mkF m 66 #[.val (.ref ax), .val (.ref ix), .val (.int (Int32.ofNat cnt)), .val (.int (Int32.ofNat es.length)), .val (.int (Int32.ofNat (max es.length cnt))), .unset, .unset, .unset, .unset] [(.int (Int32.ofNat (max es.length cnt))), (.ref ax)])) t → Steps p.tables e below (s₁.setTop (entryFrame m #[(.ref ax), (.ref ix), (.int (Int32.ofNat cnt))] 9)) t := fun t k => pre38 t (by
    show Steps p.tables e below (T37.setTop (mkF m 63 #[.val (.ref ax), .val (.ref ix), .val (.int (Int32.ofNat cnt)), .val (.int (Int32.ofNat es.length)), .val (.int (Int32.ofNat (max es.length cnt))), .unset, .unset, .unset, .unset] [])) _
    refine XS.aloadN X37.here hx rfl (hb hby d1_63) rfl rfl ?_
    refine XS.iload X37.here hx rfl (hb hby d1_64) rfl ?_
    exact k)
  obtain ⟨T40, h40, b40, X40, e40, R40, st40⟩ := gNewP X37 hx hZ (hw _ (List.mem_of_getElem? (i := 0) rfl)) e37 R37 (g := (mkF m 66 #[.val (.ref ax), .val (.ref ix), .val (.int (Int32.ofNat cnt)), .val (.int (Int32.ofNat es.length)), .val (.int (Int32.ofNat (max es.length cnt))), .unset, .unset, .unset, .unset] [(.int (Int32.ofNat (max es.length cnt))), (.ref ax)])) rfl (hb hby d1_66) rfl (n_nn (by omega)) 8 (by rw [n_ix (by omega)]; omega) (by decide) (by decide) (by decide) (vs := (nl (List.replicate (max es.length cnt) 0))) (by rw [n_ix (by omega)]; exact n_rep _)
  replace R40 : Rep Z n0 h40 ((b40, Ar .int (nl (List.replicate (max es.length cnt) 0))) :: (b35, Ar .int (nl (List.replicate (max es.length cnt) 0))) :: (b30, Ar .int (nl (List.replicate (max es.length cnt) 0))) :: (b25, Ar .int (nl (List.replicate (max es.length cnt) 0))) :: (b18, Ar .int (nl es)) :: (b13, Ar .int (nl (List.replicate es.length 0))) :: (b8, Ar .int (nl (List.replicate es.length 0))) :: (ax, Obj "com/example/witgen/witgen/regex/Partition" [("elements", "[I", (.ref b8)), ("location", "[I", (.ref b13)), ("blockOf", "[I", (.ref b18)), ("start", "[I", (.ref b25)), ("end", "[I", (.ref b30)), ("marked", "[I", (.ref b35)), ("touched", "[I", u7), ("blocks", "I", u9), ("touchedCount", "I", (.int (0 : Int32)))]) :: (ix, Ar .int (nl es)) :: Rst) := R40
  have pre41 : ∀ t, Steps p.tables e below (T40.setTop (mkF m 68 #[.val (.ref ax), .val (.ref ix), .val (.int (Int32.ofNat cnt)), .val (.int (Int32.ofNat es.length)), .val (.int (Int32.ofNat (max es.length cnt))), .unset, .unset, .unset, .unset] [(.ref b40), (.ref ax)])) t → Steps p.tables e below (s₁.setTop (entryFrame m #[(.ref ax), (.ref ix), (.int (Int32.ofNat cnt))] 9)) t := fun t k => pre39 t (st40 t k)
  obtain ⟨T42, h42, ls42, X42, e42, N42, R42, st42⟩ := gPut X40 hx hZ hown (host := "") (Or.inl (hw _ (List.mem_of_getElem? (i := 36) rfl))) e40 N37 R40 7 6 rfl rfl (Or.inr ⟨(hw _ (List.mem_of_getElem? (i := 37) rfl)), rfl, hnm⟩) (hw _ (List.mem_of_getElem? (i := 3) rfl)) (ty := (.array .int)) (by decide) rfl rfl (g := (mkF m 68 #[.val (.ref ax), .val (.ref ix), .val (.int (Int32.ofNat cnt)), .val (.int (Int32.ofNat es.length)), .val (.int (Int32.ofNat (max es.length cnt))), .unset, .unset, .unset, .unset] [(.ref b40), (.ref ax)])) rfl rfl (hb hby d1_68)
  replace R42 : Rep Z n0 h42 ((b40, Ar .int (nl (List.replicate (max es.length cnt) 0))) :: (b35, Ar .int (nl (List.replicate (max es.length cnt) 0))) :: (b30, Ar .int (nl (List.replicate (max es.length cnt) 0))) :: (b25, Ar .int (nl (List.replicate (max es.length cnt) 0))) :: (b18, Ar .int (nl es)) :: (b13, Ar .int (nl (List.replicate es.length 0))) :: (b8, Ar .int (nl (List.replicate es.length 0))) :: (ax, Obj "com/example/witgen/witgen/regex/Partition" [("elements", "[I", (.ref b8)), ("location", "[I", (.ref b13)), ("blockOf", "[I", (.ref b18)), ("start", "[I", (.ref b25)), ("end", "[I", (.ref b30)), ("marked", "[I", (.ref b35)), ("touched", "[I", (.ref b40)), ("blocks", "I", u9), ("touchedCount", "I", (.int (0 : Int32)))]) :: (ix, Ar .int (nl es)) :: Rst) := R42
  have pre43 : ∀ t, Steps p.tables e below (T42.setTop (mkF m 71 #[.val (.ref ax), .val (.ref ix), .val (.int (Int32.ofNat cnt)), .val (.int (Int32.ofNat es.length)), .val (.int (Int32.ofNat (max es.length cnt))), .unset, .unset, .unset, .unset] [])) t → Steps p.tables e below (s₁.setTop (entryFrame m #[(.ref ax), (.ref ix), (.int (Int32.ofNat cnt))] 9)) t := fun t k => pre41 t (st42 t k)
  have pre44 : ∀ t, Steps p.tables e below (T42.setTop (mkF m 73 #[.val (.ref ax), .val (.ref ix), .val (.int (Int32.ofNat cnt)), .val (.int (Int32.ofNat es.length)), .val (.int (Int32.ofNat (max es.length cnt))), .unset, .unset, .unset, .unset] [(.int (Int32.ofNat cnt)), (.ref ax)])) t → Steps p.tables e below (s₁.setTop (entryFrame m #[(.ref ax), (.ref ix), (.int (Int32.ofNat cnt))] 9)) t := fun t k => pre43 t (by
    show Steps p.tables e below (T42.setTop (mkF m 71 #[.val (.ref ax), .val (.ref ix), .val (.int (Int32.ofNat cnt)), .val (.int (Int32.ofNat es.length)), .val (.int (Int32.ofNat (max es.length cnt))), .unset, .unset, .unset, .unset] [])) _
    refine XS.aloadN X42.here hx rfl (hb hby d1_71) rfl rfl ?_
    refine XS.iloadN X42.here hx rfl (hb hby d1_72) rfl ?_
    exact k)
  obtain ⟨T45, h45, ls45, X45, e45, N45, R45, st45⟩ := gPut X42 hx hZ hown (host := "") (Or.inl (hw _ (List.mem_of_getElem? (i := 38) rfl))) e42 N42 R42 7 7 rfl rfl (Or.inl (hw _ (List.mem_of_getElem? (i := 39) rfl))) (hw _ (List.mem_of_getElem? (i := 3) rfl)) (ty := .int) (by decide) rfl rfl (g := (mkF m 73 #[.val (.ref ax), .val (.ref ix), .val (.int (Int32.ofNat cnt)), .val (.int (Int32.ofNat es.length)), .val (.int (Int32.ofNat (max es.length cnt))), .unset, .unset, .unset, .unset] [(.int (Int32.ofNat cnt)), (.ref ax)])) rfl rfl (hb hby d1_73)
  replace R45 : Rep Z n0 h45 ((b40, Ar .int (nl (List.replicate (max es.length cnt) 0))) :: (b35, Ar .int (nl (List.replicate (max es.length cnt) 0))) :: (b30, Ar .int (nl (List.replicate (max es.length cnt) 0))) :: (b25, Ar .int (nl (List.replicate (max es.length cnt) 0))) :: (b18, Ar .int (nl es)) :: (b13, Ar .int (nl (List.replicate es.length 0))) :: (b8, Ar .int (nl (List.replicate es.length 0))) :: (ax, Obj "com/example/witgen/witgen/regex/Partition" [("elements", "[I", (.ref b8)), ("location", "[I", (.ref b13)), ("blockOf", "[I", (.ref b18)), ("start", "[I", (.ref b25)), ("end", "[I", (.ref b30)), ("marked", "[I", (.ref b35)), ("touched", "[I", (.ref b40)), ("blocks", "I", (.int (Int32.ofNat cnt))), ("touchedCount", "I", (.int (0 : Int32)))]) :: (ix, Ar .int (nl es)) :: Rst) := R45
  have pre46 : ∀ t, Steps p.tables e below (T45.setTop (mkF m 76 #[.val (.ref ax), .val (.ref ix), .val (.int (Int32.ofNat cnt)), .val (.int (Int32.ofNat es.length)), .val (.int (Int32.ofNat (max es.length cnt))), .unset, .unset, .unset, .unset] [])) t → Steps p.tables e below (s₁.setTop (entryFrame m #[(.ref ax), (.ref ix), (.int (Int32.ofNat cnt))] 9)) t := fun t k => pre44 t (st45 t k)
  have pre47 : ∀ t, Steps p.tables e below (T45.setTop (mkF m 87 #[.val (.ref ax), .val (.ref ix), .val (.int (Int32.ofNat cnt)), .val (.int (Int32.ofNat es.length)), .val (.int (Int32.ofNat (max es.length cnt))), .val (.ref ix), .val (.int (Int32.ofNat es.length)), .val (.int (0 : Int32)), .unset] [])) t → Steps p.tables e below (s₁.setTop (entryFrame m #[(.ref ax), (.ref ix), (.int (Int32.ofNat cnt))] 9)) t := fun t k => pre46 t (by
    show Steps p.tables e below (T45.setTop (mkF m 76 #[.val (.ref ax), .val (.ref ix), .val (.int (Int32.ofNat cnt)), .val (.int (Int32.ofNat es.length)), .val (.int (Int32.ofNat (max es.length cnt))), .unset, .unset, .unset, .unset] [])) _
    refine XS.aloadN X45.here hx rfl (hb hby d1_76) rfl rfl ?_
    refine XS.astore X45.here hx rfl (hb hby d1_77) rfl rfl (l' := #[.val (.ref ax), .val (.ref ix), .val (.int (Int32.ofNat cnt)), .val (.int (Int32.ofNat es.length)), .val (.int (Int32.ofNat (max es.length cnt))), .val (.ref ix), .unset, .unset, .unset]) rfl ?_
    refine XS.aload X45.here hx rfl (hb hby d1_79) rfl rfl ?_
    refine gLen X45 hx hZ e45 R45 8 rfl (g := (mkF m 81 #[.val (.ref ax), .val (.ref ix), .val (.int (Int32.ofNat cnt)), .val (.int (Int32.ofNat es.length)), .val (.int (Int32.ofNat (max es.length cnt))), .val (.ref ix), .unset, .unset, .unset] [(.ref ix)])) rfl rfl (hb hby d1_81) (z := (Int32.ofNat es.length)) (by rw [nl_len]) _ ?_
    refine XS.istore X45.here hx rfl (hb hby d1_82) rfl (l' := #[.val (.ref ax), .val (.ref ix), .val (.int (Int32.ofNat cnt)), .val (.int (Int32.ofNat es.length)), .val (.int (Int32.ofNat (max es.length cnt))), .val (.ref ix), .val (.int (Int32.ofNat es.length)), .unset, .unset]) rfl ?_
    refine XS.iconst X45.here hx rfl (hb hby d1_84) ?_
    refine XS.istore X45.here hx rfl (hb hby d1_85) rfl (l' := #[.val (.ref ax), .val (.ref ix), .val (.int (Int32.ofNat cnt)), .val (.int (Int32.ofNat es.length)), .val (.int (Int32.ofNat (max es.length cnt))), .val (.ref ix), .val (.int (Int32.ofNat es.length)), .val (.int (0 : Int32)), .unset]) rfl ?_
    exact k)
  have R48 : Rep Z n0 h45 ((ix, Ar .int (nl es)) :: (b40, Ar .int (nl (List.replicate (max es.length cnt) 0))) :: (b35, Ar .int (nl (List.replicate (max es.length cnt) 0))) :: (b30, Ar .int (nl (List.replicate (max es.length cnt) 0))) :: (b25, Ar .int (nl (List.replicate (max es.length cnt) 0))) :: (b18, Ar .int (nl es)) :: (b13, Ar .int (nl (List.replicate es.length 0))) :: (b8, Ar .int (nl (List.replicate es.length 0))) :: (ax, Obj "com/example/witgen/witgen/regex/Partition" [("elements", "[I", (.ref b8)), ("location", "[I", (.ref b13)), ("blockOf", "[I", (.ref b18)), ("start", "[I", (.ref b25)), ("end", "[I", (.ref b30)), ("marked", "[I", (.ref b35)), ("touched", "[I", (.ref b40)), ("blocks", "I", (.int (Int32.ofNat cnt))), ("touchedCount", "I", (.int (0 : Int32)))]) :: Rst) := R45.front 8 rfl rfl
  have R49 : Rep Z n0 h45 ((b30, Ar .int (nl (List.replicate (max es.length cnt) 0))) :: (ix, Ar .int (nl es)) :: (b40, Ar .int (nl (List.replicate (max es.length cnt) 0))) :: (b35, Ar .int (nl (List.replicate (max es.length cnt) 0))) :: (b25, Ar .int (nl (List.replicate (max es.length cnt) 0))) :: (b18, Ar .int (nl es)) :: (b13, Ar .int (nl (List.replicate es.length 0))) :: (b8, Ar .int (nl (List.replicate es.length 0))) :: (ax, Obj "com/example/witgen/witgen/regex/Partition" [("elements", "[I", (.ref b8)), ("location", "[I", (.ref b13)), ("blockOf", "[I", (.ref b18)), ("start", "[I", (.ref b25)), ("end", "[I", (.ref b30)), ("marked", "[I", (.ref b35)), ("touched", "[I", (.ref b40)), ("blocks", "I", (.int (Int32.ofNat cnt))), ("touchedCount", "I", (.int (0 : Int32)))]) :: Rst) := R48.front 3 rfl rfl
  have R50 : Rep Z n0 h45 ((ax, Obj "com/example/witgen/witgen/regex/Partition" [("elements", "[I", (.ref b8)), ("location", "[I", (.ref b13)), ("blockOf", "[I", (.ref b18)), ("start", "[I", (.ref b25)), ("end", "[I", (.ref b30)), ("marked", "[I", (.ref b35)), ("touched", "[I", (.ref b40)), ("blocks", "I", (.int (Int32.ofNat cnt))), ("touchedCount", "I", (.int (0 : Int32)))]) :: (b30, Ar .int (nl (List.replicate (max es.length cnt) 0))) :: (ix, Ar .int (nl es)) :: (b40, Ar .int (nl (List.replicate (max es.length cnt) 0))) :: (b35, Ar .int (nl (List.replicate (max es.length cnt) 0))) :: (b25, Ar .int (nl (List.replicate (max es.length cnt) 0))) :: (b18, Ar .int (nl es)) :: (b13, Ar .int (nl (List.replicate es.length 0))) :: (b8, Ar .int (nl (List.replicate es.length 0))) :: Rst) := R49.front 8 rfl rfl
  obtain ⟨s851, T51, h51, ls51, o851, X51, e51, N51, R51, st51⟩ := l1_loop ax ix b8 b13 b18 b25 b30 b35 b40 cnt es.length (max es.length cnt) es (by omega) hx hZ hw hby hml hown es.length 0 .unset (List.replicate (max es.length cnt) 0) _ _ _ (by omega) hok.1 One1.u X45 e45 N45 R50
  replace R51 : Rep Z n0 h51 ((ax, Obj "com/example/witgen/witgen/regex/Partition" [("elements", "[I", (.ref b8)), ("location", "[I", (.ref b13)), ("blockOf", "[I", (.ref b18)), ("start", "[I", (.ref b25)), ("end", "[I", (.ref b30)), ("marked", "[I", (.ref b35)), ("touched", "[I", (.ref b40)), ("blocks", "I", (.int (Int32.ofNat cnt))), ("touchedCount", "I", (.int (0 : Int32)))]) :: (b30, Ar .int (nl (pE1 es cnt))) :: (ix, Ar .int (nl es)) :: (b40, Ar .int (nl (List.replicate (max es.length cnt) 0))) :: (b35, Ar .int (nl (List.replicate (max es.length cnt) 0))) :: (b25, Ar .int (nl (List.replicate (max es.length cnt) 0))) :: (b18, Ar .int (nl es)) :: (b13, Ar .int (nl (List.replicate es.length 0))) :: (b8, Ar .int (nl (List.replicate es.length 0))) :: Rst) := R51
  have pre52 : ∀ t, Steps p.tables e below (T51.setTop (mkF m 118 #[.val (.ref ax), .val (.ref ix), .val (.int (Int32.ofNat cnt)), .val (.int (Int32.ofNat es.length)), .val (.int (Int32.ofNat (max es.length cnt))), .val (.ref ix), .val (.int (Int32.ofNat es.length)), .val (.int (Int32.ofNat es.length)), s851] [])) t → Steps p.tables e below (s₁.setTop (entryFrame m #[(.ref ax), (.ref ix), (.int (Int32.ofNat cnt))] 9)) t := fun t k => pre47 t (st51 t k)
  have pre53 : ∀ t, Steps p.tables e below (T51.setTop (mkF m 121 #[.val (.ref ax), .val (.ref ix), .val (.int (Int32.ofNat cnt)), .val (.int (Int32.ofNat es.length)), .val (.int (Int32.ofNat (max es.length cnt))), .val (.int (1 : Int32)), .val (.int (Int32.ofNat es.length)), .val (.int (Int32.ofNat es.length)), s851] [])) t → Steps p.tables e below (s₁.setTop (entryFrame m #[(.ref ax), (.ref ix), (.int (Int32.ofNat cnt))] 9)) t := fun t k => pre52 t (by
    show Steps p.tables e below (T51.setTop (mkF m 118 #[.val (.ref ax), .val (.ref ix), .val (.int (Int32.ofNat cnt)), .val (.int (Int32.ofNat es.length)), .val (.int (Int32.ofNat (max es.length cnt))), .val (.ref ix), .val (.int (Int32.ofNat es.length)), .val (.int (Int32.ofNat es.length)), s851] [])) _
    refine XS.iconst X51.here hx rfl (hb hby d1_118) ?_
    refine XS.istore X51.here hx rfl (hb hby d1_119) rfl (l' := #[.val (.ref ax), .val (.ref ix), .val (.int (Int32.ofNat cnt)), .val (.int (Int32.ofNat es.length)), .val (.int (Int32.ofNat (max es.length cnt))), .val (.int (1 : Int32)), .val (.int (Int32.ofNat es.length)), .val (.int (Int32.ofNat es.length)), s851]) rfl ?_
    exact k)
  obtain ⟨T54, h54, ls54, X54, e54, N54, R54, st54⟩ := l2_loop ax ix b8 b13 b18 b25 b30 b35 b40 cnt es.length (max es.length cnt) (.val (.int (Int32.ofNat es.length))) (.val (.int (Int32.ofNat es.length))) (s851) (by omega) hx hZ hw hby hml hown (cnt - 1) 1 (pE1 es cnt) _ _ _ (by omega) hok.2.1 X51 e51 N51 R51
  replace R54 : Rep Z n0 h54 ((ax, Obj "com/example/witgen/witgen/regex/Partition" [("elements", "[I", (.ref b8)), ("location", "[I", (.ref b13)), ("blockOf", "[I", (.ref b18)), ("start", "[I", (.ref b25)), ("end", "[I", (.ref b30)), ("marked", "[I", (.ref b35)), ("touched", "[I", (.ref b40)), ("blocks", "I", (.int (Int32.ofNat cnt))), ("touchedCount", "I", (.int (0 : Int32)))]) :: (b30, Ar .int (nl (pEn es cnt))) :: (ix, Ar .int (nl es)) :: (b40, Ar .int (nl (List.replicate (max es.length cnt) 0))) :: (b35, Ar .int (nl (List.replicate (max es.length cnt) 0))) :: (b25, Ar .int (nl (List.replicate (max es.length cnt) 0))) :: (b18, Ar .int (nl es)) :: (b13, Ar .int (nl (List.replicate es.length 0))) :: (b8, Ar .int (nl (List.replicate es.length 0))) :: Rst) := R54
  have pre55 : ∀ t, Steps p.tables e below (T54.setTop (mkF m 152 #[.val (.ref ax), .val (.ref ix), .val (.int (Int32.ofNat cnt)), .val (.int (Int32.ofNat es.length)), .val (.int (Int32.ofNat (max es.length cnt))), .val (.int (Int32.ofNat cnt)), .val (.int (Int32.ofNat es.length)), .val (.int (Int32.ofNat es.length)), s851] [])) t → Steps p.tables e below (s₁.setTop (entryFrame m #[(.ref ax), (.ref ix), (.int (Int32.ofNat cnt))] 9)) t := fun t k => pre53 t (st54 t k)
  have pre56 : ∀ t, Steps p.tables e below (T54.setTop (mkF m 155 #[.val (.ref ax), .val (.ref ix), .val (.int (Int32.ofNat cnt)), .val (.int (Int32.ofNat es.length)), .val (.int (Int32.ofNat (max es.length cnt))), .val (.int (0 : Int32)), .val (.int (Int32.ofNat es.length)), .val (.int (Int32.ofNat es.length)), s851] [])) t → Steps p.tables e below (s₁.setTop (entryFrame m #[(.ref ax), (.ref ix), (.int (Int32.ofNat cnt))] 9)) t := fun t k => pre55 t (by
    show Steps p.tables e below (T54.setTop (mkF m 152 #[.val (.ref ax), .val (.ref ix), .val (.int (Int32.ofNat cnt)), .val (.int (Int32.ofNat es.length)), .val (.int (Int32.ofNat (max es.length cnt))), .val (.int (Int32.ofNat cnt)), .val (.int (Int32.ofNat es.length)), .val (.int (Int32.ofNat es.length)), s851] [])) _
    refine XS.iconst X54.here hx rfl (hb hby d1_152) ?_
    refine XS.istore X54.here hx rfl (hb hby d1_153) rfl (l' := #[.val (.ref ax), .val (.ref ix), .val (.int (Int32.ofNat cnt)), .val (.int (Int32.ofNat es.length)), .val (.int (Int32.ofNat (max es.length cnt))), .val (.int (0 : Int32)), .val (.int (Int32.ofNat es.length)), .val (.int (Int32.ofNat es.length)), s851]) rfl ?_
    exact k)
  have R57 : Rep Z n0 h54 ((b30, Ar .int (nl (pEn es cnt))) :: (ax, Obj "com/example/witgen/witgen/regex/Partition" [("elements", "[I", (.ref b8)), ("location", "[I", (.ref b13)), ("blockOf", "[I", (.ref b18)), ("start", "[I", (.ref b25)), ("end", "[I", (.ref b30)), ("marked", "[I", (.ref b35)), ("touched", "[I", (.ref b40)), ("blocks", "I", (.int (Int32.ofNat cnt))), ("touchedCount", "I", (.int (0 : Int32)))]) :: (ix, Ar .int (nl es)) :: (b40, Ar .int (nl (List.replicate (max es.length cnt) 0))) :: (b35, Ar .int (nl (List.replicate (max es.length cnt) 0))) :: (b25, Ar .int (nl (List.replicate (max es.length cnt) 0))) :: (b18, Ar .int (nl es)) :: (b13, Ar .int (nl (List.replicate es.length 0))) :: (b8, Ar .int (nl (List.replicate es.length 0))) :: Rst) := R54.front 1 rfl rfl
  have R58 : Rep Z n0 h54 ((b25, Ar .int (nl (List.replicate (max es.length cnt) 0))) :: (b30, Ar .int (nl (pEn es cnt))) :: (ax, Obj "com/example/witgen/witgen/regex/Partition" [("elements", "[I", (.ref b8)), ("location", "[I", (.ref b13)), ("blockOf", "[I", (.ref b18)), ("start", "[I", (.ref b25)), ("end", "[I", (.ref b30)), ("marked", "[I", (.ref b35)), ("touched", "[I", (.ref b40)), ("blocks", "I", (.int (Int32.ofNat cnt))), ("touchedCount", "I", (.int (0 : Int32)))]) :: (ix, Ar .int (nl es)) :: (b40, Ar .int (nl (List.replicate (max es.length cnt) 0))) :: (b35, Ar .int (nl (List.replicate (max es.length cnt) 0))) :: (b18, Ar .int (nl es)) :: (b13, Ar .int (nl (List.replicate es.length 0))) :: (b8, Ar .int (nl (List.replicate es.length 0))) :: Rst) := R57.front 5 rfl rfl
  have R59 : Rep Z n0 h54 ((ax, Obj "com/example/witgen/witgen/regex/Partition" [("elements", "[I", (.ref b8)), ("location", "[I", (.ref b13)), ("blockOf", "[I", (.ref b18)), ("start", "[I", (.ref b25)), ("end", "[I", (.ref b30)), ("marked", "[I", (.ref b35)), ("touched", "[I", (.ref b40)), ("blocks", "I", (.int (Int32.ofNat cnt))), ("touchedCount", "I", (.int (0 : Int32)))]) :: (b25, Ar .int (nl (List.replicate (max es.length cnt) 0))) :: (b30, Ar .int (nl (pEn es cnt))) :: (ix, Ar .int (nl es)) :: (b40, Ar .int (nl (List.replicate (max es.length cnt) 0))) :: (b35, Ar .int (nl (List.replicate (max es.length cnt) 0))) :: (b18, Ar .int (nl es)) :: (b13, Ar .int (nl (List.replicate es.length 0))) :: (b8, Ar .int (nl (List.replicate es.length 0))) :: Rst) := R58.front 2 rfl rfl
  obtain ⟨T60, h60, ls60, X60, e60, N60, R60, st60⟩ := l3_loop ax ix b8 b13 b18 b25 b30 b35 b40 cnt es.length (max es.length cnt) (.val (.int (Int32.ofNat es.length))) (.val (.int (Int32.ofNat es.length))) (s851) (pEn es cnt) (by omega) hx hZ hw hby hml hown cnt 0 (List.replicate (max es.length cnt) 0) _ _ _ (by omega) hok.2.2.1 X54 e54 N54 R59
  replace R60 : Rep Z n0 h60 ((ax, Obj "com/example/witgen/witgen/regex/Partition" [("elements", "[I", (.ref b8)), ("location", "[I", (.ref b13)), ("blockOf", "[I", (.ref b18)), ("start", "[I", (.ref b25)), ("end", "[I", (.ref b30)), ("marked", "[I", (.ref b35)), ("touched", "[I", (.ref b40)), ("blocks", "I", (.int (Int32.ofNat cnt))), ("touchedCount", "I", (.int (0 : Int32)))]) :: (b25, Ar .int (nl (pSt es cnt))) :: (b30, Ar .int (nl (pEn es cnt))) :: (ix, Ar .int (nl es)) :: (b40, Ar .int (nl (List.replicate (max es.length cnt) 0))) :: (b35, Ar .int (nl (List.replicate (max es.length cnt) 0))) :: (b18, Ar .int (nl es)) :: (b13, Ar .int (nl (List.replicate es.length 0))) :: (b8, Ar .int (nl (List.replicate es.length 0))) :: Rst) := R60
  have pre61 : ∀ t, Steps p.tables e below (T60.setTop (mkF m 192 #[.val (.ref ax), .val (.ref ix), .val (.int (Int32.ofNat cnt)), .val (.int (Int32.ofNat es.length)), .val (.int (Int32.ofNat (max es.length cnt))), .val (.int (Int32.ofNat cnt)), .val (.int (Int32.ofNat es.length)), .val (.int (Int32.ofNat es.length)), s851] [])) t → Steps p.tables e below (s₁.setTop (entryFrame m #[(.ref ax), (.ref ix), (.int (Int32.ofNat cnt))] 9)) t := fun t k => pre56 t (st60 t k)
  have pre62 : ∀ t, Steps p.tables e below (T60.setTop (mkF m 193 #[.val (.ref ax), .val (.ref ix), .val (.int (Int32.ofNat cnt)), .val (.int (Int32.ofNat es.length)), .val (.int (Int32.ofNat (max es.length cnt))), .val (.int (Int32.ofNat cnt)), .val (.int (Int32.ofNat es.length)), .val (.int (Int32.ofNat es.length)), s851] [(.ref ax)])) t → Steps p.tables e below (s₁.setTop (entryFrame m #[(.ref ax), (.ref ix), (.int (Int32.ofNat cnt))] 9)) t := fun t k => pre61 t (by
    show Steps p.tables e below (T60.setTop (mkF m 192 #[.val (.ref ax), .val (.ref ix), .val (.int (Int32.ofNat cnt)), .val (.int (Int32.ofNat es.length)), .val (.int (Int32.ofNat (max es.length cnt))), .val (.int (Int32.ofNat cnt)), .val (.int (Int32.ofNat es.length)), .val (.int (Int32.ofNat es.length)), s851] [])) _
    refine XS.aloadN X60.here hx rfl (hb hby d1_192) rfl rfl ?_
    exact k)
  obtain ⟨T63, X63, e63, st63⟩ := gGet X60 hx hZ hown (host := "") (Or.inl (hw _ (List.mem_of_getElem? (i := 30) rfl))) e60 R60 0 3 rfl rfl (g := (mkF m 193 #[.val (.ref ax), .val (.ref ix), .val (.int (Int32.ofNat cnt)), .val (.int (Int32.ofNat es.length)), .val (.int (Int32.ofNat (max es.length cnt))), .val (.int (Int32.ofNat cnt)), .val (.int (Int32.ofNat es.length)), .val (.int (Int32.ofNat es.length)), s851] [(.ref ax)])) rfl rfl (hb hby d1_193)
  have pre64 : ∀ t, Steps p.tables e below (T63.setTop (mkF m 196 #[.val (.ref ax), .val (.ref ix), .val (.int (Int32.ofNat cnt)), .val (.int (Int32.ofNat es.length)), .val (.int (Int32.ofNat (max es.length cnt))), .val (.int (Int32.ofNat cnt)), .val (.int (Int32.ofNat es.length)), .val (.int (Int32.ofNat es.length)), s851] [(.ref b25)])) t → Steps p.tables e below (s₁.setTop (entryFrame m #[(.ref ax), (.ref ix), (.int (Int32.ofNat cnt))] 9)) t := fun t k => pre62 t (st63 t k)
  have pre65 : ∀ t, Steps p.tables e below (T63.setTop (mkF m 197 #[.val (.ref ax), .val (.ref ix), .val (.int (Int32.ofNat cnt)), .val (.int (Int32.ofNat es.length)), .val (.int (Int32.ofNat (max es.length cnt))), .val (.int (Int32.ofNat cnt)), .val (.int (Int32.ofNat es.length)), .val (.int (Int32.ofNat es.length)), s851] [(.int (Int32.ofNat cnt)), (.ref b25)])) t → Steps p.tables e below (s₁.setTop (entryFrame m #[(.ref ax), (.ref ix), (.int (Int32.ofNat cnt))] 9)) t := fun t k => pre64 t (by
    show Steps p.tables e below (T63.setTop (mkF m 196 #[.val (.ref ax), .val (.ref ix), .val (.int (Int32.ofNat cnt)), .val (.int (Int32.ofNat es.length)), .val (.int (Int32.ofNat (max es.length cnt))), .val (.int (Int32.ofNat cnt)), .val (.int (Int32.ofNat es.length)), .val (.int (Int32.ofNat es.length)), s851] [(.ref b25)])) _
    refine XS.iloadN X63.here hx rfl (hb hby d1_196) rfl ?_
    exact k)
  have R67 : Rep Z n0 h60 ((b25, Ar .int (nl (pSt es cnt))) :: (ax, Obj "com/example/witgen/witgen/regex/Partition" [("elements", "[I", (.ref b8)), ("location", "[I", (.ref b13)), ("blockOf", "[I", (.ref b18)), ("start", "[I", (.ref b25)), ("end", "[I", (.ref b30)), ("marked", "[I", (.ref b35)), ("touched", "[I", (.ref b40)), ("blocks", "I", (.int (Int32.ofNat cnt))), ("touchedCount", "I", (.int (0 : Int32)))]) :: (b30, Ar .int (nl (pEn es cnt))) :: (ix, Ar .int (nl es)) :: (b40, Ar .int (nl (List.replicate (max es.length cnt) 0))) :: (b35, Ar .int (nl (List.replicate (max es.length cnt) 0))) :: (b18, Ar .int (nl es)) :: (b13, Ar .int (nl (List.replicate es.length 0))) :: (b8, Ar .int (nl (List.replicate es.length 0))) :: Rst) := R60.front 1 rfl rfl
  obtain ⟨_, _, ⟨T66, L66, k66, n66⟩, -, X66, ⟨Lc66, hQ66, l66, y66, z66⟩, st66⟩ := Jvm.LawKit.callS X63 hx (y := (⟨"java/util/Arrays", "copyOf", "([II)[I"⟩ : MethodName)) hown (mvT hZ (hw _ (List.mem_of_getElem? (i := 40) rfl))) (mvT hZ (hw _ (List.mem_of_getElem? (i := 41) rfl))) (mvT hZ (hw _ (List.mem_of_getElem? (i := 42) rfl))) (mvT hZ (hw _ (List.mem_of_getElem? (i := 43) rfl))) (by decide) (backOf (W := 0) (rm4 l Z a0 hw [] b25 cnt _ h60 n0 _ R67 (hok.2.2.2.2.1) (hok.2.2.2.2.2)) hZ (hw _ (List.mem_of_getElem? (i := 43) rfl)) (hw _ (List.mem_of_getElem? (i := 42) rfl)) (by decide) (by decide)) (g := (mkF m 197 #[.val (.ref ax), .val (.ref ix), .val (.int (Int32.ofNat cnt)), .val (.int (Int32.ofNat es.length)), .val (.int (Int32.ofNat (max es.length cnt))), .val (.int (Int32.ofNat cnt)), .val (.int (Int32.ofNat es.length)), .val (.int (Int32.ofNat es.length)), s851] [(.int (Int32.ofNat cnt)), (.ref b25)])) rfl (by rw [hml]; rfl) (argsL := [(.ref b25), (.int (Int32.ofNat cnt))]) (rest := []) (lenOf pd__28_5bII_29_5bI rfl) rfl (by show 2 * 0 + _ ≤ _; exact Nat.le_of_eq rfl) (hb hby d1_197) (fun _ _ => ⟨rfl, e63, (by decide : 7 + 1 ≤ _), (by decide : 44 + 8 ≤ _)⟩)
  dsimp only [Pt.U, Pt.locs, Pt.cells, Pt.slots] at X66 l66 y66 z66 st66 hQ66
  subst y66 z66
  obtain ⟨bx66, rfl, N66q, R66⟩ := hQ66
  have N66 : Fr n0 L66 := by rw [l66]; exact Fr.app N60 N66q
  replace R66 : Rep Z n0 T66.heap ((bx66, Ar .int (nl ((pSt es cnt).take cnt))) :: (b25, Ar .int (nl (pSt es cnt))) :: (ax, Obj "com/example/witgen/witgen/regex/Partition" [("elements", "[I", (.ref b8)), ("location", "[I", (.ref b13)), ("blockOf", "[I", (.ref b18)), ("start", "[I", (.ref b25)), ("end", "[I", (.ref b30)), ("marked", "[I", (.ref b35)), ("touched", "[I", (.ref b40)), ("blocks", "I", (.int (Int32.ofNat cnt))), ("touchedCount", "I", (.int (0 : Int32)))]) :: (b30, Ar .int (nl (pEn es cnt))) :: (ix, Ar .int (nl es)) :: (b40, Ar .int (nl (List.replicate (max es.length cnt) 0))) :: (b35, Ar .int (nl (List.replicate (max es.length cnt) 0))) :: (b18, Ar .int (nl es)) :: (b13, Ar .int (nl (List.replicate es.length 0))) :: (b8, Ar .int (nl (List.replicate es.length 0))) :: Rst) := R66
  have pre68 : ∀ t, Steps p.tables e below (T66.setTop (mkF m 200 #[.val (.ref ax), .val (.ref ix), .val (.int (Int32.ofNat cnt)), .val (.int (Int32.ofNat es.length)), .val (.int (Int32.ofNat (max es.length cnt))), .val (.int (Int32.ofNat cnt)), .val (.int (Int32.ofNat es.length)), .val (.int (Int32.ofNat es.length)), s851] [(.ref bx66)])) t → Steps p.tables e below (s₁.setTop (entryFrame m #[(.ref ax), (.ref ix), (.int (Int32.ofNat cnt))] 9)) t := fun t k => pre65 t (st66 t k)
  have pre69 : ∀ t, Steps p.tables e below (T66.setTop (mkF m 205 #[.val (.ref ax), .val (.ref ix), .val (.int (Int32.ofNat cnt)), .val (.int (Int32.ofNat es.length)), .val (.int (Int32.ofNat (max es.length cnt))), .val (.ref bx66), .val (.int (0 : Int32)), .val (.int (Int32.ofNat es.length)), s851] [])) t → Steps p.tables e below (s₁.setTop (entryFrame m #[(.ref ax), (.ref ix), (.int (Int32.ofNat cnt))] 9)) t := fun t k => pre68 t (by
    show Steps p.tables e below (T66.setTop (mkF m 200 #[.val (.ref ax), .val (.ref ix), .val (.int (Int32.ofNat cnt)), .val (.int (Int32.ofNat es.length)), .val (.int (Int32.ofNat (max es.length cnt))), .val (.int (Int32.ofNat cnt)), .val (.int (Int32.ofNat es.length)), .val (.int (Int32.ofNat es.length)), s851] [(.ref bx66)])) _
    refine XS.astore X66.here hx rfl (hb hby d1_200) rfl rfl (l' := #[.val (.ref ax), .val (.ref ix), .val (.int (Int32.ofNat cnt)), .val (.int (Int32.ofNat es.length)), .val (.int (Int32.ofNat (max es.length cnt))), .val (.ref bx66), .val (.int (Int32.ofNat es.length)), .val (.int (Int32.ofNat es.length)), s851]) rfl ?_
    refine XS.iconst X66.here hx rfl (hb hby d1_202) ?_
    refine XS.istore X66.here hx rfl (hb hby d1_203) rfl (l' := #[.val (.ref ax), .val (.ref ix), .val (.int (Int32.ofNat cnt)), .val (.int (Int32.ofNat es.length)), .val (.int (Int32.ofNat (max es.length cnt))), .val (.ref bx66), .val (.int (0 : Int32)), .val (.int (Int32.ofNat es.length)), s851]) rfl ?_
    exact k)
  have R70 : Rep Z n0 T66.heap ((ix, Ar .int (nl es)) :: (bx66, Ar .int (nl ((pSt es cnt).take cnt))) :: (b25, Ar .int (nl (pSt es cnt))) :: (ax, Obj "com/example/witgen/witgen/regex/Partition" [("elements", "[I", (.ref b8)), ("location", "[I", (.ref b13)), ("blockOf", "[I", (.ref b18)), ("start", "[I", (.ref b25)), ("end", "[I", (.ref b30)), ("marked", "[I", (.ref b35)), ("touched", "[I", (.ref b40)), ("blocks", "I", (.int (Int32.ofNat cnt))), ("touchedCount", "I", (.int (0 : Int32)))]) :: (b30, Ar .int (nl (pEn es cnt))) :: (b40, Ar .int (nl (List.replicate (max es.length cnt) 0))) :: (b35, Ar .int (nl (List.replicate (max es.length cnt) 0))) :: (b18, Ar .int (nl es)) :: (b13, Ar .int (nl (List.replicate es.length 0))) :: (b8, Ar .int (nl (List.replicate es.length 0))) :: Rst) := R66.front 4 rfl rfl
  have R71 : Rep Z n0 T66.heap ((bx66, Ar .int (nl ((pSt es cnt).take cnt))) :: (ix, Ar .int (nl es)) :: (b25, Ar .int (nl (pSt es cnt))) :: (ax, Obj "com/example/witgen/witgen/regex/Partition" [("elements", "[I", (.ref b8)), ("location", "[I", (.ref b13)), ("blockOf", "[I", (.ref b18)), ("start", "[I", (.ref b25)), ("end", "[I", (.ref b30)), ("marked", "[I", (.ref b35)), ("touched", "[I", (.ref b40)), ("blocks", "I", (.int (Int32.ofNat cnt))), ("touchedCount", "I", (.int (0 : Int32)))]) :: (b30, Ar .int (nl (pEn es cnt))) :: (b40, Ar .int (nl (List.replicate (max es.length cnt) 0))) :: (b35, Ar .int (nl (List.replicate (max es.length cnt) 0))) :: (b18, Ar .int (nl es)) :: (b13, Ar .int (nl (List.replicate es.length 0))) :: (b8, Ar .int (nl (List.replicate es.length 0))) :: Rst) := R70.front 1 rfl rfl
  have R72 : Rep Z n0 T66.heap ((b13, Ar .int (nl (List.replicate es.length 0))) :: (bx66, Ar .int (nl ((pSt es cnt).take cnt))) :: (ix, Ar .int (nl es)) :: (b25, Ar .int (nl (pSt es cnt))) :: (ax, Obj "com/example/witgen/witgen/regex/Partition" [("elements", "[I", (.ref b8)), ("location", "[I", (.ref b13)), ("blockOf", "[I", (.ref b18)), ("start", "[I", (.ref b25)), ("end", "[I", (.ref b30)), ("marked", "[I", (.ref b35)), ("touched", "[I", (.ref b40)), ("blocks", "I", (.int (Int32.ofNat cnt))), ("touchedCount", "I", (.int (0 : Int32)))]) :: (b30, Ar .int (nl (pEn es cnt))) :: (b40, Ar .int (nl (List.replicate (max es.length cnt) 0))) :: (b35, Ar .int (nl (List.replicate (max es.length cnt) 0))) :: (b18, Ar .int (nl es)) :: (b8, Ar .int (nl (List.replicate es.length 0))) :: Rst) := R71.front 8 rfl rfl
  have R73 : Rep Z n0 T66.heap ((b8, Ar .int (nl (List.replicate es.length 0))) :: (b13, Ar .int (nl (List.replicate es.length 0))) :: (bx66, Ar .int (nl ((pSt es cnt).take cnt))) :: (ix, Ar .int (nl es)) :: (b25, Ar .int (nl (pSt es cnt))) :: (ax, Obj "com/example/witgen/witgen/regex/Partition" [("elements", "[I", (.ref b8)), ("location", "[I", (.ref b13)), ("blockOf", "[I", (.ref b18)), ("start", "[I", (.ref b25)), ("end", "[I", (.ref b30)), ("marked", "[I", (.ref b35)), ("touched", "[I", (.ref b40)), ("blocks", "I", (.int (Int32.ofNat cnt))), ("touchedCount", "I", (.int (0 : Int32)))]) :: (b30, Ar .int (nl (pEn es cnt))) :: (b40, Ar .int (nl (List.replicate (max es.length cnt) 0))) :: (b35, Ar .int (nl (List.replicate (max es.length cnt) 0))) :: (b18, Ar .int (nl es)) :: Rst) := R72.front 9 rfl rfl
  have R74 : Rep Z n0 T66.heap ((ax, Obj "com/example/witgen/witgen/regex/Partition" [("elements", "[I", (.ref b8)), ("location", "[I", (.ref b13)), ("blockOf", "[I", (.ref b18)), ("start", "[I", (.ref b25)), ("end", "[I", (.ref b30)), ("marked", "[I", (.ref b35)), ("touched", "[I", (.ref b40)), ("blocks", "I", (.int (Int32.ofNat cnt))), ("touchedCount", "I", (.int (0 : Int32)))]) :: (b8, Ar .int (nl (List.replicate es.length 0))) :: (b13, Ar .int (nl (List.replicate es.length 0))) :: (bx66, Ar .int (nl ((pSt es cnt).take cnt))) :: (ix, Ar .int (nl es)) :: (b25, Ar .int (nl (pSt es cnt))) :: (b30, Ar .int (nl (pEn es cnt))) :: (b40, Ar .int (nl (List.replicate (max es.length cnt) 0))) :: (b35, Ar .int (nl (List.replicate (max es.length cnt) 0))) :: (b18, Ar .int (nl es)) :: Rst) := R73.front 5 rfl rfl
  obtain ⟨T75, h75, ls75, X75, e75, N75, R75, st75⟩ := l4_loop ax ix b8 b13 b18 b25 b30 b35 b40 cnt es.length (max es.length cnt) bx66 (.val (.int (Int32.ofNat es.length))) (s851) es (by omega) hx hZ hw hby hml hown es.length 0 (List.replicate es.length 0) (List.replicate es.length 0) ((pSt es cnt).take cnt) _ _ _ (by omega) hok.2.2.2.1 X66 rfl N66 R74
  replace R75 : Rep Z n0 h75 ((ax, Obj "com/example/witgen/witgen/regex/Partition" [("elements", "[I", (.ref b8)), ("location", "[I", (.ref b13)), ("blockOf", "[I", (.ref b18)), ("start", "[I", (.ref b25)), ("end", "[I", (.ref b30)), ("marked", "[I", (.ref b35)), ("touched", "[I", (.ref b40)), ("blocks", "I", (.int (Int32.ofNat cnt))), ("touchedCount", "I", (.int (0 : Int32)))]) :: (b8, Ar .int (nl (pS4 es cnt).1)) :: (b13, Ar .int (nl (pS4 es cnt).2.1)) :: (bx66, Ar .int (nl (pS4 es cnt).2.2)) :: (ix, Ar .int (nl es)) :: (b25, Ar .int (nl (pSt es cnt))) :: (b30, Ar .int (nl (pEn es cnt))) :: (b40, Ar .int (nl (List.replicate (max es.length cnt) 0))) :: (b35, Ar .int (nl (List.replicate (max es.length cnt) 0))) :: (b18, Ar .int (nl es)) :: Rst) := R75
  have pre76 : ∀ t, Steps p.tables e below (T75.setTop (mkF m 250 #[.val (.ref ax), .val (.ref ix), .val (.int (Int32.ofNat cnt)), .val (.int (Int32.ofNat es.length)), .val (.int (Int32.ofNat (max es.length cnt))), .val (.ref bx66), .val (.int (Int32.ofNat es.length)), .val (.int (Int32.ofNat es.length)), s851] [])) t → Steps p.tables e below (s₁.setTop (entryFrame m #[(.ref ax), (.ref ix), (.int (Int32.ofNat cnt))] 9)) t := fun t k => pre69 t (st75 t k)
  obtain ⟨fs, hr, hrun, hended, hW, hsame⟩ := X75.leave (v := none) (fun _ => rfl)
  refine ⟨_, _, pre76 _ ?_, hrun, hended, _, _, rfl, ?_, ⟨_, rfl⟩, hW, hsame.mono (by decide) (by decide)⟩
  · show Steps p.tables e below (T75.setTop (mkF m 250 #[.val (.ref ax), .val (.ref ix), .val (.int (Int32.ofNat cnt)), .val (.int (Int32.ofNat es.length)), .val (.int (Int32.ofNat (max es.length cnt))), .val (.ref bx66), .val (.int (Int32.ofNat es.length)), .val (.int (Int32.ofNat es.length)), s851] [])) _
    exact X75.returnOut hx Bd.returns (hb hby d1_250) hr
  · show Q1 Z ax ix cnt u1 u2 u3 u4 u5 u6 u7 u9 es n0 Rst _ T75.heap _
    rw [e75]
    have R77 : Rep Z n0 h75 ((ix, Ar .int (nl es)) :: (ax, Obj "com/example/witgen/witgen/regex/Partition" [("elements", "[I", (.ref b8)), ("location", "[I", (.ref b13)), ("blockOf", "[I", (.ref b18)), ("start", "[I", (.ref b25)), ("end", "[I", (.ref b30)), ("marked", "[I", (.ref b35)), ("touched", "[I", (.ref b40)), ("blocks", "I", (.int (Int32.ofNat cnt))), ("touchedCount", "I", (.int (0 : Int32)))]) :: (b8, Ar .int (nl (pS4 es cnt).1)) :: (b13, Ar .int (nl (pS4 es cnt).2.1)) :: (bx66, Ar .int (nl (pS4 es cnt).2.2)) :: (b25, Ar .int (nl (pSt es cnt))) :: (b30, Ar .int (nl (pEn es cnt))) :: (b40, Ar .int (nl (List.replicate (max es.length cnt) 0))) :: (b35, Ar .int (nl (List.replicate (max es.length cnt) 0))) :: (b18, Ar .int (nl es)) :: Rst) := R75.front 4 rfl rfl
    have R78 : Rep Z n0 h75 ((b40, Ar .int (nl (List.replicate (max es.length cnt) 0))) :: (ix, Ar .int (nl es)) :: (ax, Obj "com/example/witgen/witgen/regex/Partition" [("elements", "[I", (.ref b8)), ("location", "[I", (.ref b13)), ("blockOf", "[I", (.ref b18)), ("start", "[I", (.ref b25)), ("end", "[I", (.ref b30)), ("marked", "[I", (.ref b35)), ("touched", "[I", (.ref b40)), ("blocks", "I", (.int (Int32.ofNat cnt))), ("touchedCount", "I", (.int (0 : Int32)))]) :: (b8, Ar .int (nl (pS4 es cnt).1)) :: (b13, Ar .int (nl (pS4 es cnt).2.1)) :: (bx66, Ar .int (nl (pS4 es cnt).2.2)) :: (b25, Ar .int (nl (pSt es cnt))) :: (b30, Ar .int (nl (pEn es cnt))) :: (b35, Ar .int (nl (List.replicate (max es.length cnt) 0))) :: (b18, Ar .int (nl es)) :: Rst) := R77.front 7 rfl rfl
    have R79 : Rep Z n0 h75 ((b35, Ar .int (nl (List.replicate (max es.length cnt) 0))) :: (b40, Ar .int (nl (List.replicate (max es.length cnt) 0))) :: (ix, Ar .int (nl es)) :: (ax, Obj "com/example/witgen/witgen/regex/Partition" [("elements", "[I", (.ref b8)), ("location", "[I", (.ref b13)), ("blockOf", "[I", (.ref b18)), ("start", "[I", (.ref b25)), ("end", "[I", (.ref b30)), ("marked", "[I", (.ref b35)), ("touched", "[I", (.ref b40)), ("blocks", "I", (.int (Int32.ofNat cnt))), ("touchedCount", "I", (.int (0 : Int32)))]) :: (b8, Ar .int (nl (pS4 es cnt).1)) :: (b13, Ar .int (nl (pS4 es cnt).2.1)) :: (bx66, Ar .int (nl (pS4 es cnt).2.2)) :: (b25, Ar .int (nl (pSt es cnt))) :: (b30, Ar .int (nl (pEn es cnt))) :: (b18, Ar .int (nl es)) :: Rst) := R78.front 8 rfl rfl
    have R80 : Rep Z n0 h75 ((b30, Ar .int (nl (pEn es cnt))) :: (b35, Ar .int (nl (List.replicate (max es.length cnt) 0))) :: (b40, Ar .int (nl (List.replicate (max es.length cnt) 0))) :: (ix, Ar .int (nl es)) :: (ax, Obj "com/example/witgen/witgen/regex/Partition" [("elements", "[I", (.ref b8)), ("location", "[I", (.ref b13)), ("blockOf", "[I", (.ref b18)), ("start", "[I", (.ref b25)), ("end", "[I", (.ref b30)), ("marked", "[I", (.ref b35)), ("touched", "[I", (.ref b40)), ("blocks", "I", (.int (Int32.ofNat cnt))), ("touchedCount", "I", (.int (0 : Int32)))]) :: (b8, Ar .int (nl (pS4 es cnt).1)) :: (b13, Ar .int (nl (pS4 es cnt).2.1)) :: (bx66, Ar .int (nl (pS4 es cnt).2.2)) :: (b25, Ar .int (nl (pSt es cnt))) :: (b18, Ar .int (nl es)) :: Rst) := R79.front 8 rfl rfl
    have R81 : Rep Z n0 h75 ((b25, Ar .int (nl (pSt es cnt))) :: (b30, Ar .int (nl (pEn es cnt))) :: (b35, Ar .int (nl (List.replicate (max es.length cnt) 0))) :: (b40, Ar .int (nl (List.replicate (max es.length cnt) 0))) :: (ix, Ar .int (nl es)) :: (ax, Obj "com/example/witgen/witgen/regex/Partition" [("elements", "[I", (.ref b8)), ("location", "[I", (.ref b13)), ("blockOf", "[I", (.ref b18)), ("start", "[I", (.ref b25)), ("end", "[I", (.ref b30)), ("marked", "[I", (.ref b35)), ("touched", "[I", (.ref b40)), ("blocks", "I", (.int (Int32.ofNat cnt))), ("touchedCount", "I", (.int (0 : Int32)))]) :: (b8, Ar .int (nl (pS4 es cnt).1)) :: (b13, Ar .int (nl (pS4 es cnt).2.1)) :: (bx66, Ar .int (nl (pS4 es cnt).2.2)) :: (b18, Ar .int (nl es)) :: Rst) := R80.front 8 rfl rfl
    have R82 : Rep Z n0 h75 ((b18, Ar .int (nl es)) :: (b25, Ar .int (nl (pSt es cnt))) :: (b30, Ar .int (nl (pEn es cnt))) :: (b35, Ar .int (nl (List.replicate (max es.length cnt) 0))) :: (b40, Ar .int (nl (List.replicate (max es.length cnt) 0))) :: (ix, Ar .int (nl es)) :: (ax, Obj "com/example/witgen/witgen/regex/Partition" [("elements", "[I", (.ref b8)), ("location", "[I", (.ref b13)), ("blockOf", "[I", (.ref b18)), ("start", "[I", (.ref b25)), ("end", "[I", (.ref b30)), ("marked", "[I", (.ref b35)), ("touched", "[I", (.ref b40)), ("blocks", "I", (.int (Int32.ofNat cnt))), ("touchedCount", "I", (.int (0 : Int32)))]) :: (b8, Ar .int (nl (pS4 es cnt).1)) :: (b13, Ar .int (nl (pS4 es cnt).2.1)) :: (bx66, Ar .int (nl (pS4 es cnt).2.2)) :: Rst) := R81.front 9 rfl rfl
    have R83 : Rep Z n0 h75 ((b13, Ar .int (nl (pS4 es cnt).2.1)) :: (b18, Ar .int (nl es)) :: (b25, Ar .int (nl (pSt es cnt))) :: (b30, Ar .int (nl (pEn es cnt))) :: (b35, Ar .int (nl (List.replicate (max es.length cnt) 0))) :: (b40, Ar .int (nl (List.replicate (max es.length cnt) 0))) :: (ix, Ar .int (nl es)) :: (ax, Obj "com/example/witgen/witgen/regex/Partition" [("elements", "[I", (.ref b8)), ("location", "[I", (.ref b13)), ("blockOf", "[I", (.ref b18)), ("start", "[I", (.ref b25)), ("end", "[I", (.ref b30)), ("marked", "[I", (.ref b35)), ("touched", "[I", (.ref b40)), ("blocks", "I", (.int (Int32.ofNat cnt))), ("touchedCount", "I", (.int (0 : Int32)))]) :: (b8, Ar .int (nl (pS4 es cnt).1)) :: (bx66, Ar .int (nl (pS4 es cnt).2.2)) :: Rst) := R82.front 8 rfl rfl
    have R84 : Rep Z n0 h75 ((b8, Ar .int (nl (pS4 es cnt).1)) :: (b13, Ar .int (nl (pS4 es cnt).2.1)) :: (b18, Ar .int (nl es)) :: (b25, Ar .int (nl (pSt es cnt))) :: (b30, Ar .int (nl (pEn es cnt))) :: (b35, Ar .int (nl (List.replicate (max es.length cnt) 0))) :: (b40, Ar .int (nl (List.replicate (max es.length cnt) 0))) :: (ix, Ar .int (nl es)) :: (ax, Obj "com/example/witgen/witgen/regex/Partition" [("elements", "[I", (.ref b8)), ("location", "[I", (.ref b13)), ("blockOf", "[I", (.ref b18)), ("start", "[I", (.ref b25)), ("end", "[I", (.ref b30)), ("marked", "[I", (.ref b35)), ("touched", "[I", (.ref b40)), ("blocks", "I", (.int (Int32.ofNat cnt))), ("touchedCount", "I", (.int (0 : Int32)))]) :: (bx66, Ar .int (nl (pS4 es cnt).2.2)) :: Rst) := R83.front 8 rfl rfl
    have R85 : Rep Z n0 h75 ((ax, Obj "com/example/witgen/witgen/regex/Partition" [("elements", "[I", (.ref b8)), ("location", "[I", (.ref b13)), ("blockOf", "[I", (.ref b18)), ("start", "[I", (.ref b25)), ("end", "[I", (.ref b30)), ("marked", "[I", (.ref b35)), ("touched", "[I", (.ref b40)), ("blocks", "I", (.int (Int32.ofNat cnt))), ("touchedCount", "I", (.int (0 : Int32)))]) :: (b8, Ar .int (nl (pS4 es cnt).1)) :: (b13, Ar .int (nl (pS4 es cnt).2.1)) :: (b18, Ar .int (nl es)) :: (b25, Ar .int (nl (pSt es cnt))) :: (b30, Ar .int (nl (pEn es cnt))) :: (b35, Ar .int (nl (List.replicate (max es.length cnt) 0))) :: (b40, Ar .int (nl (List.replicate (max es.length cnt) 0))) :: (ix, Ar .int (nl es)) :: (bx66, Ar .int (nl (pS4 es cnt).2.2)) :: Rst) := R84.front 8 rfl rfl
    have R86 : Rep Z n0 h75 ((ax, Obj "com/example/witgen/witgen/regex/Partition" [("elements", "[I", (.ref b8)), ("location", "[I", (.ref b13)), ("blockOf", "[I", (.ref b18)), ("start", "[I", (.ref b25)), ("end", "[I", (.ref b30)), ("marked", "[I", (.ref b35)), ("touched", "[I", (.ref b40)), ("blocks", "I", (.int (Int32.ofNat cnt))), ("touchedCount", "I", (.int (0 : Int32)))]) :: (b8, Ar .int (nl (pS4 es cnt).1)) :: (b13, Ar .int (nl (pS4 es cnt).2.1)) :: (b18, Ar .int (nl es)) :: (b25, Ar .int (nl (pSt es cnt))) :: (b30, Ar .int (nl (pEn es cnt))) :: (b35, Ar .int (nl (List.replicate (max es.length cnt) 0))) :: (b40, Ar .int (nl (List.replicate (max es.length cnt) 0))) :: (ix, Ar .int (nl es)) :: Rst) := (R85.front 9 rfl rfl : Rep Z n0 h75 ((bx66, Ar .int (nl (pS4 es cnt).2.2)) :: (ax, Obj "com/example/witgen/witgen/regex/Partition" [("elements", "[I", (.ref b8)), ("location", "[I", (.ref b13)), ("blockOf", "[I", (.ref b18)), ("start", "[I", (.ref b25)), ("end", "[I", (.ref b30)), ("marked", "[I", (.ref b35)), ("touched", "[I", (.ref b40)), ("blocks", "I", (.int (Int32.ofNat cnt))), ("touchedCount", "I", (.int (0 : Int32)))]) :: (b8, Ar .int (nl (pS4 es cnt).1)) :: (b13, Ar .int (nl (pS4 es cnt).2.1)) :: (b18, Ar .int (nl es)) :: (b25, Ar .int (nl (pSt es cnt))) :: (b30, Ar .int (nl (pEn es cnt))) :: (b35, Ar .int (nl (List.replicate (max es.length cnt) 0))) :: (b40, Ar .int (nl (List.replicate (max es.length cnt) 0))) :: (ix, Ar .int (nl es)) :: Rst)).tail
    exact ⟨b8, b13, b18, b25, b30, b35, b40, rfl, N75, R86⟩
def mB (bo : List Nat) (ek : Nat) : Nat := bo.getD ek 0
def mF (bo sta mk : List Nat) (ek : Nat) : Nat := sta.getD (mB bo ek) 0 + mk.getD (mB bo ek) 0
def mEl (bo sta el lo mk : List Nat) (ek : Nat) : List Nat := (el.set (mF bo sta mk ek) ek).set (lo.getD ek 0) (el.getD (mF bo sta mk ek) 0)
def mLo (bo sta el lo mk : List Nat) (ek : Nat) : List Nat := (lo.set ek (mF bo sta mk ek)).set (el.getD (mF bo sta mk ek) 0) (lo.getD ek 0)
def mMk (bo mk : List Nat) (ek : Nat) : List Nat := mk.set (mB bo ek) (mk.getD (mB bo ek) 0 + 1)
def mTo (bo mk to : List Nat) (tc ek : Nat) : List Nat := if mk.getD (mB bo ek) 0 = 0 then to.set tc (mB bo ek) else to
def mTc (bo mk : List Nat) (tc ek : Nat) : Nat := if mk.getD (mB bo ek) 0 = 0 then tc + 1 else tc
def okM (bo sta el lo mk to : List Nat) (tc ek : Nat) : Bool := decide (ek < bo.length) && decide (ek < 1000) && decide (ek < lo.length) && decide (mB bo ek < sta.length) && decide (mB bo ek < 1000) && decide (mB bo ek < mk.length) && decide (mF bo sta mk ek < el.length) && decide (mF bo sta mk ek < 1000) && decide (lo.getD ek 0 < el.length) && decide (lo.getD ek 0 < 1000) && decide (el.getD (mF bo sta mk ek) 0 < lo.length) && decide (el.getD (mF bo sta mk ek) 0 < 1000) && decide (mk.getD (mB bo ek) 0 < 1000) && decide (tc < to.length) && decide (tc < 1000)
theorem d6_0 : decode prog_15_method_6_code 0 = .ok (.aload_n 0, 1) := by decide +kernel
theorem d6_1 : decode prog_15_method_6_code 1 = .ok (.getfield 27, 3) := by decide +kernel
theorem d6_4 : decode prog_15_method_6_code 4 = .ok (.iload_n 1, 1) := by decide +kernel
theorem d6_5 : decode prog_15_method_6_code 5 = .ok (.iaload, 1) := by decide +kernel
theorem d6_6 : decode prog_15_method_6_code 6 = .ok (.istore_n 2, 1) := by decide +kernel
theorem d6_7 : decode prog_15_method_6_code 7 = .ok (.aload_n 0, 1) := by decide +kernel
theorem d6_8 : decode prog_15_method_6_code 8 = .ok (.getfield 19, 3) := by decide +kernel
theorem d6_11 : decode prog_15_method_6_code 11 = .ok (.iload_n 1, 1) := by decide +kernel
theorem d6_12 : decode prog_15_method_6_code 12 = .ok (.iaload, 1) := by decide +kernel
theorem d6_13 : decode prog_15_method_6_code 13 = .ok (.istore_n 3, 1) := by decide +kernel
theorem d6_14 : decode prog_15_method_6_code 14 = .ok (.aload_n 0, 1) := by decide +kernel
theorem d6_15 : decode prog_15_method_6_code 15 = .ok (.getfield 30, 3) := by decide +kernel
theorem d6_18 : decode prog_15_method_6_code 18 = .ok (.iload_n 2, 1) := by decide +kernel
theorem d6_19 : decode prog_15_method_6_code 19 = .ok (.iaload, 1) := by decide +kernel
theorem d6_20 : decode prog_15_method_6_code 20 = .ok (.aload_n 0, 1) := by decide +kernel
theorem d6_21 : decode prog_15_method_6_code 21 = .ok (.getfield 36, 3) := by decide +kernel
theorem d6_24 : decode prog_15_method_6_code 24 = .ok (.iload_n 2, 1) := by decide +kernel
theorem d6_25 : decode prog_15_method_6_code 25 = .ok (.iaload, 1) := by decide +kernel
theorem d6_26 : decode prog_15_method_6_code 26 = .ok (.iadd, 1) := by decide +kernel
theorem d6_27 : decode prog_15_method_6_code 27 = .ok (.istore 4, 2) := by decide +kernel
theorem d6_29 : decode prog_15_method_6_code 29 = .ok (.aload_n 0, 1) := by decide +kernel
theorem d6_30 : decode prog_15_method_6_code 30 = .ok (.getfield 13, 3) := by decide +kernel
theorem d6_33 : decode prog_15_method_6_code 33 = .ok (.iload 4, 2) := by decide +kernel
theorem d6_35 : decode prog_15_method_6_code 35 = .ok (.iaload, 1) := by decide +kernel
theorem d6_36 : decode prog_15_method_6_code 36 = .ok (.istore 5, 2) := by decide +kernel
theorem d6_38 : decode prog_15_method_6_code 38 = .ok (.aload_n 0, 1) := by decide +kernel
theorem d6_39 : decode prog_15_method_6_code 39 = .ok (.getfield 13, 3) := by decide +kernel
theorem d6_42 : decode prog_15_method_6_code 42 = .ok (.iload 4, 2) := by decide +kernel
theorem d6_44 : decode prog_15_method_6_code 44 = .ok (.iload_n 1, 1) := by decide +kernel
theorem d6_45 : decode prog_15_method_6_code 45 = .ok (.iastore, 1) := by decide +kernel
theorem d6_46 : decode prog_15_method_6_code 46 = .ok (.aload_n 0, 1) := by decide +kernel
theorem d6_47 : decode prog_15_method_6_code 47 = .ok (.getfield 19, 3) := by decide +kernel
theorem d6_50 : decode prog_15_method_6_code 50 = .ok (.iload_n 1, 1) := by decide +kernel
theorem d6_51 : decode prog_15_method_6_code 51 = .ok (.iload 4, 2) := by decide +kernel
theorem d6_53 : decode prog_15_method_6_code 53 = .ok (.iastore, 1) := by decide +kernel
theorem d6_54 : decode prog_15_method_6_code 54 = .ok (.aload_n 0, 1) := by decide +kernel
theorem d6_55 : decode prog_15_method_6_code 55 = .ok (.getfield 13, 3) := by decide +kernel
theorem d6_58 : decode prog_15_method_6_code 58 = .ok (.iload_n 3, 1) := by decide +kernel
theorem d6_59 : decode prog_15_method_6_code 59 = .ok (.iload 5, 2) := by decide +kernel
theorem d6_61 : decode prog_15_method_6_code 61 = .ok (.iastore, 1) := by decide +kernel
theorem d6_62 : decode prog_15_method_6_code 62 = .ok (.aload_n 0, 1) := by decide +kernel
theorem d6_63 : decode prog_15_method_6_code 63 = .ok (.getfield 19, 3) := by decide +kernel
theorem d6_66 : decode prog_15_method_6_code 66 = .ok (.iload 5, 2) := by decide +kernel
theorem d6_68 : decode prog_15_method_6_code 68 = .ok (.iload_n 3, 1) := by decide +kernel
theorem d6_69 : decode prog_15_method_6_code 69 = .ok (.iastore, 1) := by decide +kernel
theorem d6_70 : decode prog_15_method_6_code 70 = .ok (.aload_n 0, 1) := by decide +kernel
theorem d6_71 : decode prog_15_method_6_code 71 = .ok (.getfield 36, 3) := by decide +kernel
theorem d6_74 : decode prog_15_method_6_code 74 = .ok (.iload_n 2, 1) := by decide +kernel
theorem d6_75 : decode prog_15_method_6_code 75 = .ok (.dup2, 1) := by decide +kernel
theorem d6_76 : decode prog_15_method_6_code 76 = .ok (.iaload, 1) := by decide +kernel
theorem d6_77 : decode prog_15_method_6_code 77 = .ok (.dup_x2, 1) := by decide +kernel
theorem d6_78 : decode prog_15_method_6_code 78 = .ok (.iconst 1, 1) := by decide +kernel
theorem d6_79 : decode prog_15_method_6_code 79 = .ok (.iadd, 1) := by decide +kernel
theorem d6_80 : decode prog_15_method_6_code 80 = .ok (.iastore, 1) := by decide +kernel
theorem d6_81 : decode prog_15_method_6_code 81 = .ok (.ifCond .ne 20, 3) := by decide +kernel
theorem d6_84 : decode prog_15_method_6_code 84 = .ok (.aload_n 0, 1) := by decide +kernel
theorem d6_85 : decode prog_15_method_6_code 85 = .ok (.getfield 39, 3) := by decide +kernel
theorem d6_88 : decode prog_15_method_6_code 88 = .ok (.aload_n 0, 1) := by decide +kernel
theorem d6_89 : decode prog_15_method_6_code 89 = .ok (.dup, 1) := by decide +kernel
theorem d6_90 : decode prog_15_method_6_code 90 = .ok (.getfield 52, 3) := by decide +kernel
theorem d6_93 : decode prog_15_method_6_code 93 = .ok (.dup_x1, 1) := by decide +kernel
theorem d6_94 : decode prog_15_method_6_code 94 = .ok (.iconst 1, 1) := by decide +kernel
theorem d6_95 : decode prog_15_method_6_code 95 = .ok (.iadd, 1) := by decide +kernel
theorem d6_96 : decode prog_15_method_6_code 96 = .ok (.putfield 52, 3) := by decide +kernel
theorem d6_99 : decode prog_15_method_6_code 99 = .ok (.iload_n 2, 1) := by decide +kernel
theorem d6_100 : decode prog_15_method_6_code 100 = .ok (.iastore, 1) := by decide +kernel
theorem d6_101 : decode prog_15_method_6_code 101 = .ok (.return_, 1) := by decide +kernel
theorem ef_6 (m : MethodId) (x0 : Addr) (x1 : Nat) : entryFrame m #[(.ref x0), (.int (Int32.ofNat x1))] 6 = mkF m 0 #[.val (.ref x0), .val (.int (Int32.ofNat x1)), .unset, .unset, .unset, .unset] [] := by first | (simp [entryFrame, mkF, argsToLocals, Value.category]; done) | rfl
def Q6 (Z : State) (ax : Addr) (ek : Nat) (b1 : Addr) (b2 : Addr) (b3 : Addr) (b4 : Addr) (b5 : Addr) (b6 : Addr) (b7 : Addr) (cnt : Nat) (tc : Nat) (el : List Nat) (lo : List Nat) (bo : List Nat) (sta : List Nat) (mk : List Nat) (to : List Nat) (n0 : Nat) (Rst : RL) (v : Option Value) (h : Heap) (L : List Loc) : Prop := v = none ∧ Fr n0 L ∧ Rep Z n0 h ((ax, Obj "com/example/witgen/witgen/regex/Partition" [("elements", "[I", (.ref b1)), ("location", "[I", (.ref b2)), ("blockOf", "[I", (.ref b3)), ("start", "[I", (.ref b4)), ("end", "[I", (.ref b5)), ("marked", "[I", (.ref b6)), ("touched", "[I", (.ref b7)), ("blocks", "I", (.int (Int32.ofNat cnt))), ("touchedCount", "I", (.int (Int32.ofNat (mTc bo mk tc ek))))]) :: (b1, Ar .int (nl (mEl bo sta el lo mk ek))) :: (b2, Ar .int (nl (mLo bo sta el lo mk ek))) :: (b3, Ar .int (nl bo)) :: (b4, Ar .int (nl sta)) :: (b6, Ar .int (nl (mMk bo mk ek))) :: (b7, Ar .int (nl (mTo bo mk to tc ek))) :: Rst)
set_option maxRecDepth 65536 in
set_option maxHeartbeats 40000000 in
theorem rm6 (l : Launch) (Z : State) (a0 : Array Value) (hw : ∀ d ∈ tables_1, d.before a0 Z = true) (ws : List Jvm.Cond) (ax : Addr) (ek : Nat) (b1 : Addr) (b2 : Addr) (b3 : Addr) (b4 : Addr) (b5 : Addr) (b6 : Addr) (b7 : Addr) (cnt : Nat) (tc : Nat) (el : List Nat) (lo : List Nat) (bo : List Nat) (sta : List Nat) (mk : List Nat) (to : List Nat) (h0 : Heap) (n0 : Nat) (Rst : RL) (R0 : Rep Z n0 h0 ((ax, Obj "com/example/witgen/witgen/regex/Partition" [("elements", "[I", (.ref b1)), ("location", "[I", (.ref b2)), ("blockOf", "[I", (.ref b3)), ("start", "[I", (.ref b4)), ("end", "[I", (.ref b5)), ("marked", "[I", (.ref b6)), ("touched", "[I", (.ref b7)), ("blocks", "I", (.int (Int32.ofNat cnt))), ("touchedCount", "I", (.int (Int32.ofNat tc)))]) :: (b1, Ar .int (nl el)) :: (b2, Ar .int (nl lo)) :: (b3, Ar .int (nl bo)) :: (b4, Ar .int (nl sta)) :: (b6, Ar .int (nl mk)) :: (b7, Ar .int (nl to)) :: Rst)) (hok0 : okM bo sta el lo mk to tc ek = true) :
    MetFree l (⟨"com/example/witgen/witgen/regex/Partition", "mark", "(I)V"⟩ : MethodName) (head1 (Jvm.Cond.code (⟨"com/example/witgen/witgen/regex/Partition", "mark", "(I)V"⟩ : MethodName) prog_15_method_6_code 6 none :: ws) ({ frames := 0, cells := 0, slots := 0, locals := 0 } : Room)) (fun a U => a = #[(.ref ax), (.int (Int32.ofNat ek))] ∧ Z.Warmed39 U.vm ∧ U.heap = h0) (fun _ _ _ _ _ => True) (fun _ U o U' => ∃ v L, o = .returned v ∧ Q6 Z ax ek b1 b2 b3 b4 b5 b6 b7 cnt tc el lo bo sta mk to n0 Rst v U'.heap L ∧ FrameEnd U o U' L ({ frames := 0, cells := 0, slots := 0, locals := 0 } : Room).cells ({ frames := 0, cells := 0, slots := 0, locals := 0 } : Room).slots) := by
  refine MetFree.of_bodySF (plainFor_of_name pn_com_example_witgen_witgen_regex_Partition) hisR ?_
  intro p e s m args below meth c s₁ Bd hml0 hP hK
  obtain ⟨rfl, hZ, hh⟩ := hP
  have hx := Bd.exec
  have hby := Bd.bytes
  have hml : c.maxLocals = 6 := hml0
  have hown : s.vm.findClass "com/example/witgen/witgen/regex/Partition" = some m.cls := findClass_of_methodNamed Bd.named
  have hnm := (name_of_methodNamed Bd.named Bd.method).1
  have X0 : Stand p l e ({ frames := 0, cells := 0, slots := 0, locals := 0 } : Room) s m #[(.ref ax), (.int (Int32.ofNat ek))] below meth c s₁ [] 0 0 := Stand.of_body Bd
  have e0 : s₁.heap = h0 := by rw [← hh, Bd.state]; rfl
  have N0 := Fr.nil n0
  have pre0 : ∀ t, Steps p.tables e below (s₁.setTop (mkF m 0 #[.val (.ref ax), .val (.int (Int32.ofNat ek)), .unset, .unset, .unset, .unset] [])) t → Steps p.tables e below (s₁.setTop (entryFrame m #[(.ref ax), (.int (Int32.ofNat ek))] 6)) t := fun t k => castTop (ef_6 m ax ek) k
  have ok := hok0
  simp only [okM, Bool.and_eq_true, decide_eq_true_eq] at ok
  obtain ⟨⟨⟨⟨⟨⟨⟨⟨⟨⟨⟨⟨⟨⟨q1, q2⟩, q3⟩, q4⟩, q5⟩, q6⟩, q7⟩, q8⟩, q9⟩, q10⟩, q11⟩, q12⟩, q13⟩, q14⟩, q15⟩ := ok
  have pre1 : ∀ t, Steps p.tables e below (s₁.setTop (mkF m 1 #[.val (.ref ax), .val (.int (Int32.ofNat ek)), .unset, .unset, .unset, .unset] [(.ref ax)])) t → Steps p.tables e below (s₁.setTop (entryFrame m #[(.ref ax), (.int (Int32.ofNat ek))] 6)) t := fun t k => pre0 t (by
    show Steps p.tables e below (s₁.setTop (mkF m 0 #[.val (.ref ax), .val (.int (Int32.ofNat ek)), .unset, .unset, .unset, .unset] [])) _
    refine XS.aloadN X0.here hx rfl (hb hby d6_0) rfl rfl ?_
    exact k)
  obtain ⟨T2, X2, e2, st2⟩ := gGet X0 hx hZ hown (host := "") (Or.inl (hw _ (List.mem_of_getElem? (i := 28) rfl))) e0 R0 0 2 rfl rfl (g := (mkF m 1 #[.val (.ref ax), .val (.int (Int32.ofNat ek)), .unset, .unset, .unset, .unset] [(.ref ax)])) rfl rfl (hb hby d6_1)
  have pre3 : ∀ t, Steps p.tables e below (T2.setTop (mkF m 4 #[.val (.ref ax), .val (.int (Int32.ofNat ek)), .unset, .unset, .unset, .unset] [(.ref b3)])) t → Steps p.tables e below (s₁.setTop (entryFrame m #[(.ref ax), (.int (Int32.ofNat ek))] 6)) t := fun t k => pre1 t (st2 t k)
  have pre4 : ∀ t, Steps p.tables e below (T2.setTop (mkF m 8 #[.val (.ref ax), .val (.int (Int32.ofNat ek)), .val (.int (Int32.ofNat (bo.getD ek 0))), .unset, .unset, .unset] [(.ref ax)])) t → Steps p.tables e below (s₁.setTop (entryFrame m #[(.ref ax), (.int (Int32.ofNat ek))] 6)) t := fun t k => pre3 t (by
    show Steps p.tables e below (T2.setTop (mkF m 4 #[.val (.ref ax), .val (.int (Int32.ofNat ek)), .unset, .unset, .unset, .unset] [(.ref b3)])) _
    refine XS.iloadN X2.here hx rfl (hb hby d6_4) rfl ?_
    refine gIald X2 hx hZ e2 R0 3 rfl (j := (Int32.ofNat ek)) (v := (.int (Int32.ofNat (bo.getD ek 0)))) (n_nn (q2)) (nl_at (q1) (q2)) (g := (mkF m 5 #[.val (.ref ax), .val (.int (Int32.ofNat ek)), .unset, .unset, .unset, .unset] [(.int (Int32.ofNat ek)), (.ref b3)])) rfl rfl (hb hby d6_5) _ ?_
    refine XS.istoreN X2.here hx rfl (hb hby d6_6) rfl (l' := #[.val (.ref ax), .val (.int (Int32.ofNat ek)), .val (.int (Int32.ofNat (bo.getD ek 0))), .unset, .unset, .unset]) rfl ?_
    refine XS.aloadN X2.here hx rfl (hb hby d6_7) rfl rfl ?_
    exact k)
  obtain ⟨T5, X5, e5, st5⟩ := gGet X2 hx hZ hown (host := "") (Or.inl (hw _ (List.mem_of_getElem? (i := 17) rfl))) e2 R0 0 1 rfl rfl (g := (mkF m 8 #[.val (.ref ax), .val (.int (Int32.ofNat ek)), .val (.int (Int32.ofNat (bo.getD ek 0))), .unset, .unset, .unset] [(.ref ax)])) rfl rfl (hb hby d6_8)
  have pre6 : ∀ t, Steps p.tables e below (T5.setTop (mkF m 11 #[.val (.ref ax), .val (.int (Int32.ofNat ek)), .val (.int (Int32.ofNat (bo.getD ek 0))), .unset, .unset, .unset] [(.ref b2)])) t → Steps p.tables e below (s₁.setTop (entryFrame m #[(.ref ax), (.int (Int32.ofNat ek))] 6)) t := fun t k => pre4 t (st5 t k)
  have pre7 : ∀ t, Steps p.tables e below (T5.setTop (mkF m 15 #[.val (.ref ax), .val (.int (Int32.ofNat ek)), .val (.int (Int32.ofNat (bo.getD ek 0))), .val (.int (Int32.ofNat (lo.getD ek 0))), .unset, .unset] [(.ref ax)])) t → Steps p.tables e below (s₁.setTop (entryFrame m #[(.ref ax), (.int (Int32.ofNat ek))] 6)) t := fun t k => pre6 t (by
    show Steps p.tables e below (T5.setTop (mkF m 11 #[.val (.ref ax), .val (.int (Int32.ofNat ek)), .val (.int (Int32.ofNat (bo.getD ek 0))), .unset, .unset, .unset] [(.ref b2)])) _
    refine XS.iloadN X5.here hx rfl (hb hby d6_11) rfl ?_
    refine gIald X5 hx hZ e5 R0 2 rfl (j := (Int32.ofNat ek)) (v := (.int (Int32.ofNat (lo.getD ek 0)))) (n_nn (q2)) (nl_at (q3) (q2)) (g := (mkF m 12 #[.val (.ref ax), .val (.int (Int32.ofNat ek)), .val (.int (Int32.ofNat (bo.getD ek 0))), .unset, .unset, .unset] [(.int (Int32.ofNat ek)), (.ref b2)])) rfl rfl (hb hby d6_12) _ ?_
    refine XS.istoreN X5.here hx rfl (hb hby d6_13) rfl (l' := #[.val (.ref ax), .val (.int (Int32.ofNat ek)), .val (.int (Int32.ofNat (bo.getD ek 0))), .val (.int (Int32.ofNat (lo.getD ek 0))), .unset, .unset]) rfl ?_
    refine XS.aloadN X5.here hx rfl (hb hby d6_14) rfl rfl ?_
    exact k)
  obtain ⟨T8, X8, e8, st8⟩ := gGet X5 hx hZ hown (host := "") (Or.inl (hw _ (List.mem_of_getElem? (i := 30) rfl))) e5 R0 0 3 rfl rfl (g := (mkF m 15 #[.val (.ref ax), .val (.int (Int32.ofNat ek)), .val (.int (Int32.ofNat (bo.getD ek 0))), .val (.int (Int32.ofNat (lo.getD ek 0))), .unset, .unset] [(.ref ax)])) rfl rfl (hb hby d6_15)
  have pre9 : ∀ t, Steps p.tables e below (T8.setTop (mkF m 18 #[.val (.ref ax), .val (.int (Int32.ofNat ek)), .val (.int (Int32.ofNat (bo.getD ek 0))), .val (.int (Int32.ofNat (lo.getD ek 0))), .unset, .unset] [(.ref b4)])) t → Steps p.tables e below (s₁.setTop (entryFrame m #[(.ref ax), (.int (Int32.ofNat ek))] 6)) t := fun t k => pre7 t (st8 t k)
  have pre10 : ∀ t, Steps p.tables e below (T8.setTop (mkF m 21 #[.val (.ref ax), .val (.int (Int32.ofNat ek)), .val (.int (Int32.ofNat (bo.getD ek 0))), .val (.int (Int32.ofNat (lo.getD ek 0))), .unset, .unset] [(.ref ax), (.int (Int32.ofNat (sta.getD (bo.getD ek 0) 0)))])) t → Steps p.tables e below (s₁.setTop (entryFrame m #[(.ref ax), (.int (Int32.ofNat ek))] 6)) t := fun t k => pre9 t (by
    show Steps p.tables e below (T8.setTop (mkF m 18 #[.val (.ref ax), .val (.int (Int32.ofNat ek)), .val (.int (Int32.ofNat (bo.getD ek 0))), .val (.int (Int32.ofNat (lo.getD ek 0))), .unset, .unset] [(.ref b4)])) _
    refine XS.iloadN X8.here hx rfl (hb hby d6_18) rfl ?_
    refine gIald X8 hx hZ e8 R0 4 rfl (j := (Int32.ofNat (bo.getD ek 0))) (v := (.int (Int32.ofNat (sta.getD (bo.getD ek 0) 0)))) (n_nn (q5)) (nl_at (q4) (q5)) (g := (mkF m 19 #[.val (.ref ax), .val (.int (Int32.ofNat ek)), .val (.int (Int32.ofNat (bo.getD ek 0))), .val (.int (Int32.ofNat (lo.getD ek 0))), .unset, .unset] [(.int (Int32.ofNat (bo.getD ek 0))), (.ref b4)])) rfl rfl (hb hby d6_19) _ ?_
    refine XS.aloadN X8.here hx rfl (hb hby d6_20) rfl rfl ?_
    exact k)
  obtain ⟨T11, X11, e11, st11⟩ := gGet X8 hx hZ hown (host := "") (Or.inl (hw _ (List.mem_of_getElem? (i := 34) rfl))) e8 R0 0 5 rfl rfl (g := (mkF m 21 #[.val (.ref ax), .val (.int (Int32.ofNat ek)), .val (.int (Int32.ofNat (bo.getD ek 0))), .val (.int (Int32.ofNat (lo.getD ek 0))), .unset, .unset] [(.ref ax), (.int (Int32.ofNat (sta.getD (bo.getD ek 0) 0)))])) rfl rfl (hb hby d6_21)
  have pre12 : ∀ t, Steps p.tables e below (T11.setTop (mkF m 24 #[.val (.ref ax), .val (.int (Int32.ofNat ek)), .val (.int (Int32.ofNat (bo.getD ek 0))), .val (.int (Int32.ofNat (lo.getD ek 0))), .unset, .unset] [(.ref b6), (.int (Int32.ofNat (sta.getD (bo.getD ek 0) 0)))])) t → Steps p.tables e below (s₁.setTop (entryFrame m #[(.ref ax), (.int (Int32.ofNat ek))] 6)) t := fun t k => pre10 t (st11 t k)
  have pre13 : ∀ t, Steps p.tables e below (T11.setTop (mkF m 30 #[.val (.ref ax), .val (.int (Int32.ofNat ek)), .val (.int (Int32.ofNat (bo.getD ek 0))), .val (.int (Int32.ofNat (lo.getD ek 0))), .val (.int (Int32.ofNat ((sta.getD (bo.getD ek 0) 0) + (mk.getD (bo.getD ek 0) 0)))), .unset] [(.ref ax)])) t → Steps p.tables e below (s₁.setTop (entryFrame m #[(.ref ax), (.int (Int32.ofNat ek))] 6)) t := fun t k => pre12 t (by
    show Steps p.tables e below (T11.setTop (mkF m 24 #[.val (.ref ax), .val (.int (Int32.ofNat ek)), .val (.int (Int32.ofNat (bo.getD ek 0))), .val (.int (Int32.ofNat (lo.getD ek 0))), .unset, .unset] [(.ref b6), (.int (Int32.ofNat (sta.getD (bo.getD ek 0) 0)))])) _
    refine XS.iloadN X11.here hx rfl (hb hby d6_24) rfl ?_
    refine gIald X11 hx hZ e11 R0 5 rfl (j := (Int32.ofNat (bo.getD ek 0))) (v := (.int (Int32.ofNat (mk.getD (bo.getD ek 0) 0)))) (n_nn (q5)) (nl_at (q6) (q5)) (g := (mkF m 25 #[.val (.ref ax), .val (.int (Int32.ofNat ek)), .val (.int (Int32.ofNat (bo.getD ek 0))), .val (.int (Int32.ofNat (lo.getD ek 0))), .unset, .unset] [(.int (Int32.ofNat (bo.getD ek 0))), (.ref b6), (.int (Int32.ofNat (sta.getD (bo.getD ek 0) 0)))])) rfl rfl (hb hby d6_25) _ ?_
    refine XS.iadd X11.here hx rfl (hb hby d6_26) rfl ?_
    change Steps p.tables e below (T11.setTop (mkF m 27 #[.val (.ref ax), .val (.int (Int32.ofNat ek)), .val (.int (Int32.ofNat (bo.getD ek 0))), .val (.int (Int32.ofNat (lo.getD ek 0))), .unset, .unset] [(.int ((Int32.ofNat (sta.getD (bo.getD ek 0) 0)) + (Int32.ofNat (mk.getD (bo.getD ek 0) 0))))])) _
    rw [n_add]
    show Steps p.tables e below (T11.setTop (mkF m 27 #[.val (.ref ax), .val (.int (Int32.ofNat ek)), .val (.int (Int32.ofNat (bo.getD ek 0))), .val (.int (Int32.ofNat (lo.getD ek 0))), .unset, .unset] [(.int (Int32.ofNat ((sta.getD (bo.getD ek 0) 0) + (mk.getD (bo.getD ek 0) 0))))])) _
    refine XS.istore X11.here hx rfl (hb hby d6_27) rfl (l' := #[.val (.ref ax), .val (.int (Int32.ofNat ek)), .val (.int (Int32.ofNat (bo.getD ek 0))), .val (.int (Int32.ofNat (lo.getD ek 0))), .val (.int (Int32.ofNat ((sta.getD (bo.getD ek 0) 0) + (mk.getD (bo.getD ek 0) 0)))), .unset]) rfl ?_
    refine XS.aloadN X11.here hx rfl (hb hby d6_29) rfl rfl ?_
    exact k)
  obtain ⟨T14, X14, e14, st14⟩ := gGet X11 hx hZ hown (host := "") (Or.inl (hw _ (List.mem_of_getElem? (i := 15) rfl))) e11 R0 0 0 rfl rfl (g := (mkF m 30 #[.val (.ref ax), .val (.int (Int32.ofNat ek)), .val (.int (Int32.ofNat (bo.getD ek 0))), .val (.int (Int32.ofNat (lo.getD ek 0))), .val (.int (Int32.ofNat ((sta.getD (bo.getD ek 0) 0) + (mk.getD (bo.getD ek 0) 0)))), .unset] [(.ref ax)])) rfl rfl (hb hby d6_30)
  have pre15 : ∀ t, Steps p.tables e below (T14.setTop (mkF m 33 #[.val (.ref ax), .val (.int (Int32.ofNat ek)), .val (.int (Int32.ofNat (bo.getD ek 0))), .val (.int (Int32.ofNat (lo.getD ek 0))), .val (.int (Int32.ofNat ((sta.getD (bo.getD ek 0) 0) + (mk.getD (bo.getD ek 0) 0)))), .unset] [(.ref b1)])) t → Steps p.tables e below (s₁.setTop (entryFrame m #[(.ref ax), (.int (Int32.ofNat ek))] 6)) t := fun t k => pre13 t (st14 t k)
  have pre16 : ∀ t, Steps p.tables e below (T14.setTop (mkF m 39 #[.val (.ref ax), .val (.int (Int32.ofNat ek)), .val (.int (Int32.ofNat (bo.getD ek 0))), .val (.int (Int32.ofNat (lo.getD ek 0))), .val (.int (Int32.ofNat ((sta.getD (bo.getD ek 0) 0) + (mk.getD (bo.getD ek 0) 0)))), .val (.int (Int32.ofNat (el.getD ((sta.getD (bo.getD ek 0) 0) + (mk.getD (bo.getD ek 0) 0)) 0)))] [(.ref ax)])) t → Steps p.tables e below (s₁.setTop (entryFrame m #[(.ref ax), (.int (Int32.ofNat ek))] 6)) t := fun t k => pre15 t (by
    show Steps p.tables e below (T14.setTop (mkF m 33 #[.val (.ref ax), .val (.int (Int32.ofNat ek)), .val (.int (Int32.ofNat (bo.getD ek 0))), .val (.int (Int32.ofNat (lo.getD ek 0))), .val (.int (Int32.ofNat ((sta.getD (bo.getD ek 0) 0) + (mk.getD (bo.getD ek 0) 0)))), .unset] [(.ref b1)])) _
    refine XS.iload X14.here hx rfl (hb hby d6_33) rfl ?_
    refine gIald X14 hx hZ e14 R0 1 rfl (j := (Int32.ofNat ((sta.getD (bo.getD ek 0) 0) + (mk.getD (bo.getD ek 0) 0)))) (v := (.int (Int32.ofNat (el.getD ((sta.getD (bo.getD ek 0) 0) + (mk.getD (bo.getD ek 0) 0)) 0)))) (n_nn (q8)) (nl_at (q7) (q8)) (g := (mkF m 35 #[.val (.ref ax), .val (.int (Int32.ofNat ek)), .val (.int (Int32.ofNat (bo.getD ek 0))), .val (.int (Int32.ofNat (lo.getD ek 0))), .val (.int (Int32.ofNat ((sta.getD (bo.getD ek 0) 0) + (mk.getD (bo.getD ek 0) 0)))), .unset] [(.int (Int32.ofNat ((sta.getD (bo.getD ek 0) 0) + (mk.getD (bo.getD ek 0) 0)))), (.ref b1)])) rfl rfl (hb hby d6_35) _ ?_
    refine XS.istore X14.here hx rfl (hb hby d6_36) rfl (l' := #[.val (.ref ax), .val (.int (Int32.ofNat ek)), .val (.int (Int32.ofNat (bo.getD ek 0))), .val (.int (Int32.ofNat (lo.getD ek 0))), .val (.int (Int32.ofNat ((sta.getD (bo.getD ek 0) 0) + (mk.getD (bo.getD ek 0) 0)))), .val (.int (Int32.ofNat (el.getD ((sta.getD (bo.getD ek 0) 0) + (mk.getD (bo.getD ek 0) 0)) 0)))]) rfl ?_
    refine XS.aloadN X14.here hx rfl (hb hby d6_38) rfl rfl ?_
    exact k)
  obtain ⟨T17, X17, e17, st17⟩ := gGet X14 hx hZ hown (host := "") (Or.inl (hw _ (List.mem_of_getElem? (i := 15) rfl))) e14 R0 0 0 rfl rfl (g := (mkF m 39 #[.val (.ref ax), .val (.int (Int32.ofNat ek)), .val (.int (Int32.ofNat (bo.getD ek 0))), .val (.int (Int32.ofNat (lo.getD ek 0))), .val (.int (Int32.ofNat ((sta.getD (bo.getD ek 0) 0) + (mk.getD (bo.getD ek 0) 0)))), .val (.int (Int32.ofNat (el.getD ((sta.getD (bo.getD ek 0) 0) + (mk.getD (bo.getD ek 0) 0)) 0)))] [(.ref ax)])) rfl rfl (hb hby d6_39)
  have pre18 : ∀ t, Steps p.tables e below (T17.setTop (mkF m 42 #[.val (.ref ax), .val (.int (Int32.ofNat ek)), .val (.int (Int32.ofNat (bo.getD ek 0))), .val (.int (Int32.ofNat (lo.getD ek 0))), .val (.int (Int32.ofNat ((sta.getD (bo.getD ek 0) 0) + (mk.getD (bo.getD ek 0) 0)))), .val (.int (Int32.ofNat (el.getD ((sta.getD (bo.getD ek 0) 0) + (mk.getD (bo.getD ek 0) 0)) 0)))] [(.ref b1)])) t → Steps p.tables e below (s₁.setTop (entryFrame m #[(.ref ax), (.int (Int32.ofNat ek))] 6)) t := fun t k => pre16 t (st17 t k)
  have pre19 : ∀ t, Steps p.tables e below (T17.setTop (mkF m 45 #[.val (.ref ax), .val (.int (Int32.ofNat ek)), .val (.int (Int32.ofNat (bo.getD ek 0))), .val (.int (Int32.ofNat (lo.getD ek 0))), .val (.int (Int32.ofNat ((sta.getD (bo.getD ek 0) 0) + (mk.getD (bo.getD ek 0) 0)))), .val (.int (Int32.ofNat (el.getD ((sta.getD (bo.getD ek 0) 0) + (mk.getD (bo.getD ek 0) 0)) 0)))] [(.int (Int32.ofNat ek)), (.int (Int32.ofNat ((sta.getD (bo.getD ek 0) 0) + (mk.getD (bo.getD ek 0) 0)))), (.ref b1)])) t → Steps p.tables e below (s₁.setTop (entryFrame m #[(.ref ax), (.int (Int32.ofNat ek))] 6)) t := fun t k => pre18 t (by
    show Steps p.tables e below (T17.setTop (mkF m 42 #[.val (.ref ax), .val (.int (Int32.ofNat ek)), .val (.int (Int32.ofNat (bo.getD ek 0))), .val (.int (Int32.ofNat (lo.getD ek 0))), .val (.int (Int32.ofNat ((sta.getD (bo.getD ek 0) 0) + (mk.getD (bo.getD ek 0) 0)))), .val (.int (Int32.ofNat (el.getD ((sta.getD (bo.getD ek 0) 0) + (mk.getD (bo.getD ek 0) 0)) 0)))] [(.ref b1)])) _
    refine XS.iload X17.here hx rfl (hb hby d6_42) rfl ?_
    refine XS.iloadN X17.here hx rfl (hb hby d6_44) rfl ?_
    exact k)
  obtain ⟨T20, h20, ls20, X20, e20, N20, R20, st20⟩ := gIst X17 hx hZ e17 N0 R0 1 rfl (j := (Int32.ofNat ((sta.getD (bo.getD ek 0) 0) + (mk.getD (bo.getD ek 0) 0)))) (n_nn (q8)) (((sta.getD (bo.getD ek 0) 0) + (mk.getD (bo.getD ek 0) 0))) (n_ix (q8)) (nl_lt (q7)) (g := (mkF m 45 #[.val (.ref ax), .val (.int (Int32.ofNat ek)), .val (.int (Int32.ofNat (bo.getD ek 0))), .val (.int (Int32.ofNat (lo.getD ek 0))), .val (.int (Int32.ofNat ((sta.getD (bo.getD ek 0) 0) + (mk.getD (bo.getD ek 0) 0)))), .val (.int (Int32.ofNat (el.getD ((sta.getD (bo.getD ek 0) 0) + (mk.getD (bo.getD ek 0) 0)) 0)))] [(.int (Int32.ofNat ek)), (.int (Int32.ofNat ((sta.getD (bo.getD ek 0) 0) + (mk.getD (bo.getD ek 0) 0)))), (.ref b1)])) rfl rfl (hb hby d6_45)
  replace R20 : Rep Z n0 h20 ((ax, Obj "com/example/witgen/witgen/regex/Partition" [("elements", "[I", (.ref b1)), ("location", "[I", (.ref b2)), ("blockOf", "[I", (.ref b3)), ("start", "[I", (.ref b4)), ("end", "[I", (.ref b5)), ("marked", "[I", (.ref b6)), ("touched", "[I", (.ref b7)), ("blocks", "I", (.int (Int32.ofNat cnt))), ("touchedCount", "I", (.int (Int32.ofNat tc)))]) :: (b1, Ar .int (nl (el.set ((sta.getD (bo.getD ek 0) 0) + (mk.getD (bo.getD ek 0) 0)) ek))) :: (b2, Ar .int (nl lo)) :: (b3, Ar .int (nl bo)) :: (b4, Ar .int (nl sta)) :: (b6, Ar .int (nl mk)) :: (b7, Ar .int (nl to)) :: Rst) := by rw [← nl_set el ((sta.getD (bo.getD ek 0) 0) + (mk.getD (bo.getD ek 0) 0)) ek]; exact R20
  have pre21 : ∀ t, Steps p.tables e below (T20.setTop (mkF m 46 #[.val (.ref ax), .val (.int (Int32.ofNat ek)), .val (.int (Int32.ofNat (bo.getD ek 0))), .val (.int (Int32.ofNat (lo.getD ek 0))), .val (.int (Int32.ofNat ((sta.getD (bo.getD ek 0) 0) + (mk.getD (bo.getD ek 0) 0)))), .val (.int (Int32.ofNat (el.getD ((sta.getD (bo.getD ek 0) 0) + (mk.getD (bo.getD ek 0) 0)) 0)))] [])) t → Steps p.tables e below (s₁.setTop (entryFrame m #[(.ref ax), (.int (Int32.ofNat ek))] 6)) t := fun t k => pre19 t (st20 t k)
  have pre22 : ∀ t, Steps p.tables e below (T20.setTop (mkF m 47 #[.val (.ref ax), .val (.int (Int32.ofNat ek)), .val (.int (Int32.ofNat (bo.getD ek 0))), .val (.int (Int32.ofNat (lo.getD ek 0))), .val (.int (Int32.ofNat ((sta.getD (bo.getD ek 0) 0) + (mk.getD (bo.getD ek 0) 0)))), .val (.int (Int32.ofNat (el.getD ((sta.getD (bo.getD ek 0) 0) + (mk.getD (bo.getD ek 0) 0)) 0)))] [(.ref ax)])) t → Steps p.tables e below (s₁.setTop (entryFrame m #[(.ref ax), (.int (Int32.ofNat ek))] 6)) t := fun t k => pre21 t (by
    show Steps p.tables e below (T20.setTop (mkF m 46 #[.val (.ref ax), .val (.int (Int32.ofNat ek)), .val (.int (Int32.ofNat (bo.getD ek 0))), .val (.int (Int32.ofNat (lo.getD ek 0))), .val (.int (Int32.ofNat ((sta.getD (bo.getD ek 0) 0) + (mk.getD (bo.getD ek 0) 0)))), .val (.int (Int32.ofNat (el.getD ((sta.getD (bo.getD ek 0) 0) + (mk.getD (bo.getD ek 0) 0)) 0)))] [])) _
    refine XS.aloadN X20.here hx rfl (hb hby d6_46) rfl rfl ?_
    exact k)
  obtain ⟨T23, X23, e23, st23⟩ := gGet X20 hx hZ hown (host := "") (Or.inl (hw _ (List.mem_of_getElem? (i := 17) rfl))) e20 R20 0 1 rfl rfl (g := (mkF m 47 #[.val (.ref ax), .val (.int (Int32.ofNat ek)), .val (.int (Int32.ofNat (bo.getD ek 0))), .val (.int (Int32.ofNat (lo.getD ek 0))), .val (.int (Int32.ofNat ((sta.getD (bo.getD ek 0) 0) + (mk.getD (bo.getD ek 0) 0)))), .val (.int (Int32.ofNat (el.getD ((sta.getD (bo.getD ek 0) 0) + (mk.getD (bo.getD ek 0) 0)) 0)))] [(.ref ax)])) rfl rfl (hb hby d6_47)
  have pre24 : ∀ t, Steps p.tables e below (T23.setTop (mkF m 50 #[.val (.ref ax), .val (.int (Int32.ofNat ek)), .val (.int (Int32.ofNat (bo.getD ek 0))), .val (.int (Int32.ofNat (lo.getD ek 0))), .val (.int (Int32.ofNat ((sta.getD (bo.getD ek 0) 0) + (mk.getD (bo.getD ek 0) 0)))), .val (.int (Int32.ofNat (el.getD ((sta.getD (bo.getD ek 0) 0) + (mk.getD (bo.getD ek 0) 0)) 0)))] [(.ref b2)])) t → Steps p.tables e below (s₁.setTop (entryFrame m #[(.ref ax), (.int (Int32.ofNat ek))] 6)) t := fun t k => pre22 t (st23 t k)
  have pre25 : ∀ t, Steps p.tables e below (T23.setTop (mkF m 53 #[.val (.ref ax), .val (.int (Int32.ofNat ek)), .val (.int (Int32.ofNat (bo.getD ek 0))), .val (.int (Int32.ofNat (lo.getD ek 0))), .val (.int (Int32.ofNat ((sta.getD (bo.getD ek 0) 0) + (mk.getD (bo.getD ek 0) 0)))), .val (.int (Int32.ofNat (el.getD ((sta.getD (bo.getD ek 0) 0) + (mk.getD (bo.getD ek 0) 0)) 0)))] [(.int (Int32.ofNat ((sta.getD (bo.getD ek 0) 0) + (mk.getD (bo.getD ek 0) 0)))), (.int (Int32.ofNat ek)), (.ref b2)])) t → Steps p.tables e below (s₁.setTop (entryFrame m #[(.ref ax), (.int (Int32.ofNat ek))] 6)) t := fun t k => pre24 t (by
    show Steps p.tables e below (T23.setTop (mkF m 50 #[.val (.ref ax), .val (.int (Int32.ofNat ek)), .val (.int (Int32.ofNat (bo.getD ek 0))), .val (.int (Int32.ofNat (lo.getD ek 0))), .val (.int (Int32.ofNat ((sta.getD (bo.getD ek 0) 0) + (mk.getD (bo.getD ek 0) 0)))), .val (.int (Int32.ofNat (el.getD ((sta.getD (bo.getD ek 0) 0) + (mk.getD (bo.getD ek 0) 0)) 0)))] [(.ref b2)])) _
    refine XS.iloadN X23.here hx rfl (hb hby d6_50) rfl ?_
    refine XS.iload X23.here hx rfl (hb hby d6_51) rfl ?_
    exact k)
  obtain ⟨T26, h26, ls26, X26, e26, N26, R26, st26⟩ := gIst X23 hx hZ e23 N20 R20 2 rfl (j := (Int32.ofNat ek)) (n_nn (q2)) (ek) (n_ix (q2)) (nl_lt (q3)) (g := (mkF m 53 #[.val (.ref ax), .val (.int (Int32.ofNat ek)), .val (.int (Int32.ofNat (bo.getD ek 0))), .val (.int (Int32.ofNat (lo.getD ek 0))), .val (.int (Int32.ofNat ((sta.getD (bo.getD ek 0) 0) + (mk.getD (bo.getD ek 0) 0)))), .val (.int (Int32.ofNat (el.getD ((sta.getD (bo.getD ek 0) 0) + (mk.getD (bo.getD ek 0) 0)) 0)))] [(.int (Int32.ofNat ((sta.getD (bo.getD ek 0) 0) + (mk.getD (bo.getD ek 0) 0)))), (.int (Int32.ofNat ek)), (.ref b2)])) rfl rfl (hb hby d6_53)
  replace R26 : Rep Z n0 h26 ((ax, Obj "com/example/witgen/witgen/regex/Partition" [("elements", "[I", (.ref b1)), ("location", "[I", (.ref b2)), ("blockOf", "[I", (.ref b3)), ("start", "[I", (.ref b4)), ("end", "[I", (.ref b5)), ("marked", "[I", (.ref b6)), ("touched", "[I", (.ref b7)), ("blocks", "I", (.int (Int32.ofNat cnt))), ("touchedCount", "I", (.int (Int32.ofNat tc)))]) :: (b1, Ar .int (nl (el.set ((sta.getD (bo.getD ek 0) 0) + (mk.getD (bo.getD ek 0) 0)) ek))) :: (b2, Ar .int (nl (lo.set ek ((sta.getD (bo.getD ek 0) 0) + (mk.getD (bo.getD ek 0) 0))))) :: (b3, Ar .int (nl bo)) :: (b4, Ar .int (nl sta)) :: (b6, Ar .int (nl mk)) :: (b7, Ar .int (nl to)) :: Rst) := by rw [← nl_set lo ek ((sta.getD (bo.getD ek 0) 0) + (mk.getD (bo.getD ek 0) 0))]; exact R26
  have pre27 : ∀ t, Steps p.tables e below (T26.setTop (mkF m 54 #[.val (.ref ax), .val (.int (Int32.ofNat ek)), .val (.int (Int32.ofNat (bo.getD ek 0))), .val (.int (Int32.ofNat (lo.getD ek 0))), .val (.int (Int32.ofNat ((sta.getD (bo.getD ek 0) 0) + (mk.getD (bo.getD ek 0) 0)))), .val (.int (Int32.ofNat (el.getD ((sta.getD (bo.getD ek 0) 0) + (mk.getD (bo.getD ek 0) 0)) 0)))] [])) t → Steps p.tables e below (s₁.setTop (entryFrame m #[(.ref ax), (.int (Int32.ofNat ek))] 6)) t := fun t k => pre25 t (st26 t k)
  have pre28 : ∀ t, Steps p.tables e below (T26.setTop (mkF m 55 #[.val (.ref ax), .val (.int (Int32.ofNat ek)), .val (.int (Int32.ofNat (bo.getD ek 0))), .val (.int (Int32.ofNat (lo.getD ek 0))), .val (.int (Int32.ofNat ((sta.getD (bo.getD ek 0) 0) + (mk.getD (bo.getD ek 0) 0)))), .val (.int (Int32.ofNat (el.getD ((sta.getD (bo.getD ek 0) 0) + (mk.getD (bo.getD ek 0) 0)) 0)))] [(.ref ax)])) t → Steps p.tables e below (s₁.setTop (entryFrame m #[(.ref ax), (.int (Int32.ofNat ek))] 6)) t := fun t k => pre27 t (by
    show Steps p.tables e below (T26.setTop (mkF m 54 #[.val (.ref ax), .val (.int (Int32.ofNat ek)), .val (.int (Int32.ofNat (bo.getD ek 0))), .val (.int (Int32.ofNat (lo.getD ek 0))), .val (.int (Int32.ofNat ((sta.getD (bo.getD ek 0) 0) + (mk.getD (bo.getD ek 0) 0)))), .val (.int (Int32.ofNat (el.getD ((sta.getD (bo.getD ek 0) 0) + (mk.getD (bo.getD ek 0) 0)) 0)))] [])) _
    refine XS.aloadN X26.here hx rfl (hb hby d6_54) rfl rfl ?_
    exact k)
  obtain ⟨T29, X29, e29, st29⟩ := gGet X26 hx hZ hown (host := "") (Or.inl (hw _ (List.mem_of_getElem? (i := 15) rfl))) e26 R26 0 0 rfl rfl (g := (mkF m 55 #[.val (.ref ax), .val (.int (Int32.ofNat ek)), .val (.int (Int32.ofNat (bo.getD ek 0))), .val (.int (Int32.ofNat (lo.getD ek 0))), .val (.int (Int32.ofNat ((sta.getD (bo.getD ek 0) 0) + (mk.getD (bo.getD ek 0) 0)))), .val (.int (Int32.ofNat (el.getD ((sta.getD (bo.getD ek 0) 0) + (mk.getD (bo.getD ek 0) 0)) 0)))] [(.ref ax)])) rfl rfl (hb hby d6_55)
  have pre30 : ∀ t, Steps p.tables e below (T29.setTop (mkF m 58 #[.val (.ref ax), .val (.int (Int32.ofNat ek)), .val (.int (Int32.ofNat (bo.getD ek 0))), .val (.int (Int32.ofNat (lo.getD ek 0))), .val (.int (Int32.ofNat ((sta.getD (bo.getD ek 0) 0) + (mk.getD (bo.getD ek 0) 0)))), .val (.int (Int32.ofNat (el.getD ((sta.getD (bo.getD ek 0) 0) + (mk.getD (bo.getD ek 0) 0)) 0)))] [(.ref b1)])) t → Steps p.tables e below (s₁.setTop (entryFrame m #[(.ref ax), (.int (Int32.ofNat ek))] 6)) t := fun t k => pre28 t (st29 t k)
  have pre31 : ∀ t, Steps p.tables e below (T29.setTop (mkF m 61 #[.val (.ref ax), .val (.int (Int32.ofNat ek)), .val (.int (Int32.ofNat (bo.getD ek 0))), .val (.int (Int32.ofNat (lo.getD ek 0))), .val (.int (Int32.ofNat ((sta.getD (bo.getD ek 0) 0) + (mk.getD (bo.getD ek 0) 0)))), .val (.int (Int32.ofNat (el.getD ((sta.getD (bo.getD ek 0) 0) + (mk.getD (bo.getD ek 0) 0)) 0)))] [(.int (Int32.ofNat (el.getD ((sta.getD (bo.getD ek 0) 0) + (mk.getD (bo.getD ek 0) 0)) 0))), (.int (Int32.ofNat (lo.getD ek 0))), (.ref b1)])) t → Steps p.tables e below (s₁.setTop (entryFrame m #[(.ref ax), (.int (Int32.ofNat ek))] 6)) t := fun t k => pre30 t (by
    show Steps p.tables e below (T29.setTop (mkF m 58 #[.val (.ref ax), .val (.int (Int32.ofNat ek)), .val (.int (Int32.ofNat (bo.getD ek 0))), .val (.int (Int32.ofNat (lo.getD ek 0))), .val (.int (Int32.ofNat ((sta.getD (bo.getD ek 0) 0) + (mk.getD (bo.getD ek 0) 0)))), .val (.int (Int32.ofNat (el.getD ((sta.getD (bo.getD ek 0) 0) + (mk.getD (bo.getD ek 0) 0)) 0)))] [(.ref b1)])) _
    refine XS.iloadN X29.here hx rfl (hb hby d6_58) rfl ?_
    refine XS.iload X29.here hx rfl (hb hby d6_59) rfl ?_
    exact k)
  obtain ⟨T32, h32, ls32, X32, e32, N32, R32, st32⟩ := gIst X29 hx hZ e29 N26 R26 1 rfl (j := (Int32.ofNat (lo.getD ek 0))) (n_nn (q10)) ((lo.getD ek 0)) (n_ix (q10)) (nl_lt (by rw [List.length_set]; exact q9)) (g := (mkF m 61 #[.val (.ref ax), .val (.int (Int32.ofNat ek)), .val (.int (Int32.ofNat (bo.getD ek 0))), .val (.int (Int32.ofNat (lo.getD ek 0))), .val (.int (Int32.ofNat ((sta.getD (bo.getD ek 0) 0) + (mk.getD (bo.getD ek 0) 0)))), .val (.int (Int32.ofNat (el.getD ((sta.getD (bo.getD ek 0) 0) + (mk.getD (bo.getD ek 0) 0)) 0)))] [(.int (Int32.ofNat (el.getD ((sta.getD (bo.getD ek 0) 0) + (mk.getD (bo.getD ek 0) 0)) 0))), (.int (Int32.ofNat (lo.getD ek 0))), (.ref b1)])) rfl rfl (hb hby d6_61)
  replace R32 : Rep Z n0 h32 ((ax, Obj "com/example/witgen/witgen/regex/Partition" [("elements", "[I", (.ref b1)), ("location", "[I", (.ref b2)), ("blockOf", "[I", (.ref b3)), ("start", "[I", (.ref b4)), ("end", "[I", (.ref b5)), ("marked", "[I", (.ref b6)), ("touched", "[I", (.ref b7)), ("blocks", "I", (.int (Int32.ofNat cnt))), ("touchedCount", "I", (.int (Int32.ofNat tc)))]) :: (b1, Ar .int (nl ((el.set ((sta.getD (bo.getD ek 0) 0) + (mk.getD (bo.getD ek 0) 0)) ek).set (lo.getD ek 0) (el.getD ((sta.getD (bo.getD ek 0) 0) + (mk.getD (bo.getD ek 0) 0)) 0)))) :: (b2, Ar .int (nl (lo.set ek ((sta.getD (bo.getD ek 0) 0) + (mk.getD (bo.getD ek 0) 0))))) :: (b3, Ar .int (nl bo)) :: (b4, Ar .int (nl sta)) :: (b6, Ar .int (nl mk)) :: (b7, Ar .int (nl to)) :: Rst) := by rw [← nl_set (el.set ((sta.getD (bo.getD ek 0) 0) + (mk.getD (bo.getD ek 0) 0)) ek) (lo.getD ek 0) (el.getD ((sta.getD (bo.getD ek 0) 0) + (mk.getD (bo.getD ek 0) 0)) 0)]; exact R32
  have pre33 : ∀ t, Steps p.tables e below (T32.setTop (mkF m 62 #[.val (.ref ax), .val (.int (Int32.ofNat ek)), .val (.int (Int32.ofNat (bo.getD ek 0))), .val (.int (Int32.ofNat (lo.getD ek 0))), .val (.int (Int32.ofNat ((sta.getD (bo.getD ek 0) 0) + (mk.getD (bo.getD ek 0) 0)))), .val (.int (Int32.ofNat (el.getD ((sta.getD (bo.getD ek 0) 0) + (mk.getD (bo.getD ek 0) 0)) 0)))] [])) t → Steps p.tables e below (s₁.setTop (entryFrame m #[(.ref ax), (.int (Int32.ofNat ek))] 6)) t := fun t k => pre31 t (st32 t k)
  have pre34 : ∀ t, Steps p.tables e below (T32.setTop (mkF m 63 #[.val (.ref ax), .val (.int (Int32.ofNat ek)), .val (.int (Int32.ofNat (bo.getD ek 0))), .val (.int (Int32.ofNat (lo.getD ek 0))), .val (.int (Int32.ofNat ((sta.getD (bo.getD ek 0) 0) + (mk.getD (bo.getD ek 0) 0)))), .val (.int (Int32.ofNat (el.getD ((sta.getD (bo.getD ek 0) 0) + (mk.getD (bo.getD ek 0) 0)) 0)))] [(.ref ax)])) t → Steps p.tables e below (s₁.setTop (entryFrame m #[(.ref ax), (.int (Int32.ofNat ek))] 6)) t := fun t k => pre33 t (by
    show Steps p.tables e below (T32.setTop (mkF m 62 #[.val (.ref ax), .val (.int (Int32.ofNat ek)), .val (.int (Int32.ofNat (bo.getD ek 0))), .val (.int (Int32.ofNat (lo.getD ek 0))), .val (.int (Int32.ofNat ((sta.getD (bo.getD ek 0) 0) + (mk.getD (bo.getD ek 0) 0)))), .val (.int (Int32.ofNat (el.getD ((sta.getD (bo.getD ek 0) 0) + (mk.getD (bo.getD ek 0) 0)) 0)))] [])) _
    refine XS.aloadN X32.here hx rfl (hb hby d6_62) rfl rfl ?_
    exact k)
  obtain ⟨T35, X35, e35, st35⟩ := gGet X32 hx hZ hown (host := "") (Or.inl (hw _ (List.mem_of_getElem? (i := 17) rfl))) e32 R32 0 1 rfl rfl (g := (mkF m 63 #[.val (.ref ax), .val (.int (Int32.ofNat ek)), .val (.int (Int32.ofNat (bo.getD ek 0))), .val (.int (Int32.ofNat (lo.getD ek 0))), .val (.int (Int32.ofNat ((sta.getD (bo.getD ek 0) 0) + (mk.getD (bo.getD ek 0) 0)))), .val (.int (Int32.ofNat (el.getD ((sta.getD (bo.getD ek 0) 0) + (mk.getD (bo.getD ek 0) 0)) 0)))] [(.ref ax)])) rfl rfl (hb hby d6_63)
  have pre36 : ∀ t, Steps p.tables e below (T35.setTop (mkF m 66 #[.val (.ref ax), .val (.int (Int32.ofNat ek)), .val (.int (Int32.ofNat (bo.getD ek 0))), .val (.int (Int32.ofNat (lo.getD ek 0))), .val (.int (Int32.ofNat ((sta.getD (bo.getD ek 0) 0) + (mk.getD (bo.getD ek 0) 0)))), .val (.int (Int32.ofNat (el.getD ((sta.getD (bo.getD ek 0) 0) + (mk.getD (bo.getD ek 0) 0)) 0)))] [(.ref b2)])) t → Steps p.tables e below (s₁.setTop (entryFrame m #[(.ref ax), (.int (Int32.ofNat ek))] 6)) t := fun t k => pre34 t (st35 t k)
  have pre37 : ∀ t, Steps p.tables e below (T35.setTop (mkF m 69 #[.val (.ref ax), .val (.int (Int32.ofNat ek)), .val (.int (Int32.ofNat (bo.getD ek 0))), .val (.int (Int32.ofNat (lo.getD ek 0))), .val (.int (Int32.ofNat ((sta.getD (bo.getD ek 0) 0) + (mk.getD (bo.getD ek 0) 0)))), .val (.int (Int32.ofNat (el.getD ((sta.getD (bo.getD ek 0) 0) + (mk.getD (bo.getD ek 0) 0)) 0)))] [(.int (Int32.ofNat (lo.getD ek 0))), (.int (Int32.ofNat (el.getD ((sta.getD (bo.getD ek 0) 0) + (mk.getD (bo.getD ek 0) 0)) 0))), (.ref b2)])) t → Steps p.tables e below (s₁.setTop (entryFrame m #[(.ref ax), (.int (Int32.ofNat ek))] 6)) t := fun t k => pre36 t (by
    show Steps p.tables e below (T35.setTop (mkF m 66 #[.val (.ref ax), .val (.int (Int32.ofNat ek)), .val (.int (Int32.ofNat (bo.getD ek 0))), .val (.int (Int32.ofNat (lo.getD ek 0))), .val (.int (Int32.ofNat ((sta.getD (bo.getD ek 0) 0) + (mk.getD (bo.getD ek 0) 0)))), .val (.int (Int32.ofNat (el.getD ((sta.getD (bo.getD ek 0) 0) + (mk.getD (bo.getD ek 0) 0)) 0)))] [(.ref b2)])) _
    refine XS.iload X35.here hx rfl (hb hby d6_66) rfl ?_
    refine XS.iloadN X35.here hx rfl (hb hby d6_68) rfl ?_
    exact k)
  obtain ⟨T38, h38, ls38, X38, e38, N38, R38, st38⟩ := gIst X35 hx hZ e35 N32 R32 2 rfl (j := (Int32.ofNat (el.getD ((sta.getD (bo.getD ek 0) 0) + (mk.getD (bo.getD ek 0) 0)) 0))) (n_nn (q12)) ((el.getD ((sta.getD (bo.getD ek 0) 0) + (mk.getD (bo.getD ek 0) 0)) 0)) (n_ix (q12)) (nl_lt (by rw [List.length_set]; exact q11)) (g := (mkF m 69 #[.val (.ref ax), .val (.int (Int32.ofNat ek)), .val (.int (Int32.ofNat (bo.getD ek 0))), .val (.int (Int32.ofNat (lo.getD ek 0))), .val (.int (Int32.ofNat ((sta.getD (bo.getD ek 0) 0) + (mk.getD (bo.getD ek 0) 0)))), .val (.int (Int32.ofNat (el.getD ((sta.getD (bo.getD ek 0) 0) + (mk.getD (bo.getD ek 0) 0)) 0)))] [(.int (Int32.ofNat (lo.getD ek 0))), (.int (Int32.ofNat (el.getD ((sta.getD (bo.getD ek 0) 0) + (mk.getD (bo.getD ek 0) 0)) 0))), (.ref b2)])) rfl rfl (hb hby d6_69)
  replace R38 : Rep Z n0 h38 ((ax, Obj "com/example/witgen/witgen/regex/Partition" [("elements", "[I", (.ref b1)), ("location", "[I", (.ref b2)), ("blockOf", "[I", (.ref b3)), ("start", "[I", (.ref b4)), ("end", "[I", (.ref b5)), ("marked", "[I", (.ref b6)), ("touched", "[I", (.ref b7)), ("blocks", "I", (.int (Int32.ofNat cnt))), ("touchedCount", "I", (.int (Int32.ofNat tc)))]) :: (b1, Ar .int (nl ((el.set ((sta.getD (bo.getD ek 0) 0) + (mk.getD (bo.getD ek 0) 0)) ek).set (lo.getD ek 0) (el.getD ((sta.getD (bo.getD ek 0) 0) + (mk.getD (bo.getD ek 0) 0)) 0)))) :: (b2, Ar .int (nl ((lo.set ek ((sta.getD (bo.getD ek 0) 0) + (mk.getD (bo.getD ek 0) 0))).set (el.getD ((sta.getD (bo.getD ek 0) 0) + (mk.getD (bo.getD ek 0) 0)) 0) (lo.getD ek 0)))) :: (b3, Ar .int (nl bo)) :: (b4, Ar .int (nl sta)) :: (b6, Ar .int (nl mk)) :: (b7, Ar .int (nl to)) :: Rst) := by rw [← nl_set (lo.set ek ((sta.getD (bo.getD ek 0) 0) + (mk.getD (bo.getD ek 0) 0))) (el.getD ((sta.getD (bo.getD ek 0) 0) + (mk.getD (bo.getD ek 0) 0)) 0) (lo.getD ek 0)]; exact R38
  have pre39 : ∀ t, Steps p.tables e below (T38.setTop (mkF m 70 #[.val (.ref ax), .val (.int (Int32.ofNat ek)), .val (.int (Int32.ofNat (bo.getD ek 0))), .val (.int (Int32.ofNat (lo.getD ek 0))), .val (.int (Int32.ofNat ((sta.getD (bo.getD ek 0) 0) + (mk.getD (bo.getD ek 0) 0)))), .val (.int (Int32.ofNat (el.getD ((sta.getD (bo.getD ek 0) 0) + (mk.getD (bo.getD ek 0) 0)) 0)))] [])) t → Steps p.tables e below (s₁.setTop (entryFrame m #[(.ref ax), (.int (Int32.ofNat ek))] 6)) t := fun t k => pre37 t (st38 t k)
  have pre40 : ∀ t, Steps p.tables e below (T38.setTop (mkF m 71 #[.val (.ref ax), .val (.int (Int32.ofNat ek)), .val (.int (Int32.ofNat (bo.getD ek 0))), .val (.int (Int32.ofNat (lo.getD ek 0))), .val (.int (Int32.ofNat ((sta.getD (bo.getD ek 0) 0) + (mk.getD (bo.getD ek 0) 0)))), .val (.int (Int32.ofNat (el.getD ((sta.getD (bo.getD ek 0) 0) + (mk.getD (bo.getD ek 0) 0)) 0)))] [(.ref ax)])) t → Steps p.tables e below (s₁.setTop (entryFrame m #[(.ref ax), (.int (Int32.ofNat ek))] 6)) t := fun t k => pre39 t (by
    show Steps p.tables e below (T38.setTop (mkF m 70 #[.val (.ref ax), .val (.int (Int32.ofNat ek)), .val (.int (Int32.ofNat (bo.getD ek 0))), .val (.int (Int32.ofNat (lo.getD ek 0))), .val (.int (Int32.ofNat ((sta.getD (bo.getD ek 0) 0) + (mk.getD (bo.getD ek 0) 0)))), .val (.int (Int32.ofNat (el.getD ((sta.getD (bo.getD ek 0) 0) + (mk.getD (bo.getD ek 0) 0)) 0)))] [])) _
    refine XS.aloadN X38.here hx rfl (hb hby d6_70) rfl rfl ?_
    exact k)
  obtain ⟨T41, X41, e41, st41⟩ := gGet X38 hx hZ hown (host := "") (Or.inl (hw _ (List.mem_of_getElem? (i := 34) rfl))) e38 R38 0 5 rfl rfl (g := (mkF m 71 #[.val (.ref ax), .val (.int (Int32.ofNat ek)), .val (.int (Int32.ofNat (bo.getD ek 0))), .val (.int (Int32.ofNat (lo.getD ek 0))), .val (.int (Int32.ofNat ((sta.getD (bo.getD ek 0) 0) + (mk.getD (bo.getD ek 0) 0)))), .val (.int (Int32.ofNat (el.getD ((sta.getD (bo.getD ek 0) 0) + (mk.getD (bo.getD ek 0) 0)) 0)))] [(.ref ax)])) rfl rfl (hb hby d6_71)
  have pre42 : ∀ t, Steps p.tables e below (T41.setTop (mkF m 74 #[.val (.ref ax), .val (.int (Int32.ofNat ek)), .val (.int (Int32.ofNat (bo.getD ek 0))), .val (.int (Int32.ofNat (lo.getD ek 0))), .val (.int (Int32.ofNat ((sta.getD (bo.getD ek 0) 0) + (mk.getD (bo.getD ek 0) 0)))), .val (.int (Int32.ofNat (el.getD ((sta.getD (bo.getD ek 0) 0) + (mk.getD (bo.getD ek 0) 0)) 0)))] [(.ref b6)])) t → Steps p.tables e below (s₁.setTop (entryFrame m #[(.ref ax), (.int (Int32.ofNat ek))] 6)) t := fun t k => pre40 t (st41 t k)
  have pre43 : ∀ t, Steps p.tables e below (T41.setTop (mkF m 80 #[.val (.ref ax), .val (.int (Int32.ofNat ek)), .val (.int (Int32.ofNat (bo.getD ek 0))), .val (.int (Int32.ofNat (lo.getD ek 0))), .val (.int (Int32.ofNat ((sta.getD (bo.getD ek 0) 0) + (mk.getD (bo.getD ek 0) 0)))), .val (.int (Int32.ofNat (el.getD ((sta.getD (bo.getD ek 0) 0) + (mk.getD (bo.getD ek 0) 0)) 0)))] [(.int (Int32.ofNat ((mk.getD (bo.getD ek 0) 0) + 1))), (.int (Int32.ofNat (bo.getD ek 0))), (.ref b6), (.int (Int32.ofNat (mk.getD (bo.getD ek 0) 0)))])) t → Steps p.tables e below (s₁.setTop (entryFrame m #[(.ref ax), (.int (Int32.ofNat ek))] 6)) t := fun t k => pre42 t (by
    show Steps p.tables e below (T41.setTop (mkF m 74 #[.val (.ref ax), .val (.int (Int32.ofNat ek)), .val (.int (Int32.ofNat (bo.getD ek 0))), .val (.int (Int32.ofNat (lo.getD ek 0))), .val (.int (Int32.ofNat ((sta.getD (bo.getD ek 0) 0) + (mk.getD (bo.getD ek 0) 0)))), .val (.int (Int32.ofNat (el.getD ((sta.getD (bo.getD ek 0) 0) + (mk.getD (bo.getD ek 0) 0)) 0)))] [(.ref b6)])) _
    refine XS.iloadN X41.here hx rfl (hb hby d6_74) rfl ?_
    refine xDup2 X41.here hx rfl (hb hby d6_75) rfl rfl rfl ?_
    refine gIald X41 hx hZ e41 R38 5 rfl (j := (Int32.ofNat (bo.getD ek 0))) (v := (.int (Int32.ofNat (mk.getD (bo.getD ek 0) 0)))) (n_nn (q5)) (nl_at (q6) (q5)) (g := (mkF m 76 #[.val (.ref ax), .val (.int (Int32.ofNat ek)), .val (.int (Int32.ofNat (bo.getD ek 0))), .val (.int (Int32.ofNat (lo.getD ek 0))), .val (.int (Int32.ofNat ((sta.getD (bo.getD ek 0) 0) + (mk.getD (bo.getD ek 0) 0)))), .val (.int (Int32.ofNat (el.getD ((sta.getD (bo.getD ek 0) 0) + (mk.getD (bo.getD ek 0) 0)) 0)))] [(.int (Int32.ofNat (bo.getD ek 0))), (.ref b6), (.int (Int32.ofNat (bo.getD ek 0))), (.ref b6)])) rfl rfl (hb hby d6_76) _ ?_
    refine xDupX2 X41.here hx rfl (hb hby d6_77) rfl rfl rfl rfl ?_
    refine XS.iconst X41.here hx rfl (hb hby d6_78) ?_
    refine XS.iadd X41.here hx rfl (hb hby d6_79) rfl ?_
    change Steps p.tables e below (T41.setTop (mkF m 80 #[.val (.ref ax), .val (.int (Int32.ofNat ek)), .val (.int (Int32.ofNat (bo.getD ek 0))), .val (.int (Int32.ofNat (lo.getD ek 0))), .val (.int (Int32.ofNat ((sta.getD (bo.getD ek 0) 0) + (mk.getD (bo.getD ek 0) 0)))), .val (.int (Int32.ofNat (el.getD ((sta.getD (bo.getD ek 0) 0) + (mk.getD (bo.getD ek 0) 0)) 0)))] [(.int ((Int32.ofNat (mk.getD (bo.getD ek 0) 0)) + (1 : Int32))), (.int (Int32.ofNat (bo.getD ek 0))), (.ref b6), (.int (Int32.ofNat (mk.getD (bo.getD ek 0) 0)))])) _
    rw [n_one]
    exact k)
  obtain ⟨T44, h44, ls44, X44, e44, N44, R44, st44⟩ := gIst X41 hx hZ e41 N38 R38 5 rfl (j := (Int32.ofNat (bo.getD ek 0))) (n_nn (q5)) ((bo.getD ek 0)) (n_ix (q5)) (nl_lt (q6)) (g := (mkF m 80 #[.val (.ref ax), .val (.int (Int32.ofNat ek)), .val (.int (Int32.ofNat (bo.getD ek 0))), .val (.int (Int32.ofNat (lo.getD ek 0))), .val (.int (Int32.ofNat ((sta.getD (bo.getD ek 0) 0) + (mk.getD (bo.getD ek 0) 0)))), .val (.int (Int32.ofNat (el.getD ((sta.getD (bo.getD ek 0) 0) + (mk.getD (bo.getD ek 0) 0)) 0)))] [(.int (Int32.ofNat ((mk.getD (bo.getD ek 0) 0) + 1))), (.int (Int32.ofNat (bo.getD ek 0))), (.ref b6), (.int (Int32.ofNat (mk.getD (bo.getD ek 0) 0)))])) rfl rfl (hb hby d6_80)
  replace R44 : Rep Z n0 h44 ((ax, Obj "com/example/witgen/witgen/regex/Partition" [("elements", "[I", (.ref b1)), ("location", "[I", (.ref b2)), ("blockOf", "[I", (.ref b3)), ("start", "[I", (.ref b4)), ("end", "[I", (.ref b5)), ("marked", "[I", (.ref b6)), ("touched", "[I", (.ref b7)), ("blocks", "I", (.int (Int32.ofNat cnt))), ("touchedCount", "I", (.int (Int32.ofNat tc)))]) :: (b1, Ar .int (nl ((el.set ((sta.getD (bo.getD ek 0) 0) + (mk.getD (bo.getD ek 0) 0)) ek).set (lo.getD ek 0) (el.getD ((sta.getD (bo.getD ek 0) 0) + (mk.getD (bo.getD ek 0) 0)) 0)))) :: (b2, Ar .int (nl ((lo.set ek ((sta.getD (bo.getD ek 0) 0) + (mk.getD (bo.getD ek 0) 0))).set (el.getD ((sta.getD (bo.getD ek 0) 0) + (mk.getD (bo.getD ek 0) 0)) 0) (lo.getD ek 0)))) :: (b3, Ar .int (nl bo)) :: (b4, Ar .int (nl sta)) :: (b6, Ar .int (nl (mk.set (bo.getD ek 0) ((mk.getD (bo.getD ek 0) 0) + 1)))) :: (b7, Ar .int (nl to)) :: Rst) := by rw [← nl_set mk (bo.getD ek 0) ((mk.getD (bo.getD ek 0) 0) + 1)]; exact R44
  have pre45 : ∀ t, Steps p.tables e below (T44.setTop (mkF m 81 #[.val (.ref ax), .val (.int (Int32.ofNat ek)), .val (.int (Int32.ofNat (bo.getD ek 0))), .val (.int (Int32.ofNat (lo.getD ek 0))), .val (.int (Int32.ofNat ((sta.getD (bo.getD ek 0) 0) + (mk.getD (bo.getD ek 0) 0)))), .val (.int (Int32.ofNat (el.getD ((sta.getD (bo.getD ek 0) 0) + (mk.getD (bo.getD ek 0) 0)) 0)))] [(.int (Int32.ofNat (mk.getD (bo.getD ek 0) 0)))])) t → Steps p.tables e below (s₁.setTop (entryFrame m #[(.ref ax), (.int (Int32.ofNat ek))] 6)) t := fun t k => pre43 t (st44 t k)
  by_cases hb46 : (Int32.ofNat (mk.getD (bo.getD ek 0) 0)) = (0 : Int32)
  · have pre47 : ∀ t, Steps p.tables e below (T44.setTop (mkF m 84 #[.val (.ref ax), .val (.int (Int32.ofNat ek)), .val (.int (Int32.ofNat (bo.getD ek 0))), .val (.int (Int32.ofNat (lo.getD ek 0))), .val (.int (Int32.ofNat ((sta.getD (bo.getD ek 0) 0) + (mk.getD (bo.getD ek 0) 0)))), .val (.int (Int32.ofNat (el.getD ((sta.getD (bo.getD ek 0) 0) + (mk.getD (bo.getD ek 0) 0)) 0)))] [])) t → Steps p.tables e below (s₁.setTop (entryFrame m #[(.ref ax), (.int (Int32.ofNat ek))] 6)) t := fun t k => pre45 t (by show Steps p.tables e below (T44.setTop (mkF m 81 #[.val (.ref ax), .val (.int (Int32.ofNat ek)), .val (.int (Int32.ofNat (bo.getD ek 0))), .val (.int (Int32.ofNat (lo.getD ek 0))), .val (.int (Int32.ofNat ((sta.getD (bo.getD ek 0) 0) + (mk.getD (bo.getD ek 0) 0)))), .val (.int (Int32.ofNat (el.getD ((sta.getD (bo.getD ek 0) 0) + (mk.getD (bo.getD ek 0) 0)) 0)))] [(.int (Int32.ofNat (mk.getD (bo.getD ek 0) 0)))])) _; refine XS.ifNo X44.here hx rfl (hb hby d6_81) rfl ((if0 _ _).trans (teq hb46).2) ?_; exact k)
    have pre48 : ∀ t, Steps p.tables e below (T44.setTop (mkF m 85 #[.val (.ref ax), .val (.int (Int32.ofNat ek)), .val (.int (Int32.ofNat (bo.getD ek 0))), .val (.int (Int32.ofNat (lo.getD ek 0))), .val (.int (Int32.ofNat ((sta.getD (bo.getD ek 0) 0) + (mk.getD (bo.getD ek 0) 0)))), .val (.int (Int32.ofNat (el.getD ((sta.getD (bo.getD ek 0) 0) + (mk.getD (bo.getD ek 0) 0)) 0)))] [(.ref ax)])) t → Steps p.tables e below (s₁.setTop (entryFrame m #[(.ref ax), (.int (Int32.ofNat ek))] 6)) t := fun t k => pre47 t (by
      show Steps p.tables e below (T44.setTop (mkF m 84 #[.val (.ref ax), .val (.int (Int32.ofNat ek)), .val (.int (Int32.ofNat (bo.getD ek 0))), .val (.int (Int32.ofNat (lo.getD ek 0))), .val (.int (Int32.ofNat ((sta.getD (bo.getD ek 0) 0) + (mk.getD (bo.getD ek 0) 0)))), .val (.int (Int32.ofNat (el.getD ((sta.getD (bo.getD ek 0) 0) + (mk.getD (bo.getD ek 0) 0)) 0)))] [])) _
      refine XS.aloadN X44.here hx rfl (hb hby d6_84) rfl rfl ?_
      exact k)
    obtain ⟨T49, X49, e49, st49⟩ := gGet X44 hx hZ hown (host := "") (Or.inl (hw _ (List.mem_of_getElem? (i := 36) rfl))) e44 R44 0 6 rfl rfl (g := (mkF m 85 #[.val (.ref ax), .val (.int (Int32.ofNat ek)), .val (.int (Int32.ofNat (bo.getD ek 0))), .val (.int (Int32.ofNat (lo.getD ek 0))), .val (.int (Int32.ofNat ((sta.getD (bo.getD ek 0) 0) + (mk.getD (bo.getD ek 0) 0)))), .val (.int (Int32.ofNat (el.getD ((sta.getD (bo.getD ek 0) 0) + (mk.getD (bo.getD ek 0) 0)) 0)))] [(.ref ax)])) rfl rfl (hb hby d6_85)
    have pre50 : ∀ t, Steps p.tables e below (T49.setTop (mkF m 88 #[.val (.ref ax), .val (.int (Int32.ofNat ek)), .val (.int (Int32.ofNat (bo.getD ek 0))), .val (.int (Int32.ofNat (lo.getD ek 0))), .val (.int (Int32.ofNat ((sta.getD (bo.getD ek 0) 0) + (mk.getD (bo.getD ek 0) 0)))), .val (.int (Int32.ofNat (el.getD ((sta.getD (bo.getD ek 0) 0) + (mk.getD (bo.getD ek 0) 0)) 0)))] [(.ref b7)])) t → Steps p.tables e below (s₁.setTop (entryFrame m #[(.ref ax), (.int (Int32.ofNat ek))] 6)) t := fun t k => pre48 t (st49 t k)
    have pre51 : ∀ t, Steps p.tables e below (T49.setTop (mkF m 90 #[.val (.ref ax), .val (.int (Int32.ofNat ek)), .val (.int (Int32.ofNat (bo.getD ek 0))), .val (.int (Int32.ofNat (lo.getD ek 0))), .val (.int (Int32.ofNat ((sta.getD (bo.getD ek 0) 0) + (mk.getD (bo.getD ek 0) 0)))), .val (.int (Int32.ofNat (el.getD ((sta.getD (bo.getD ek 0) 0) + (mk.getD (bo.getD ek 0) 0)) 0)))] [(.ref ax), (.ref ax), (.ref b7)])) t → Steps p.tables e below (s₁.setTop (entryFrame m #[(.ref ax), (.int (Int32.ofNat ek))] 6)) t := fun t k => pre50 t (by
      show Steps p.tables e below (T49.setTop (mkF m 88 #[.val (.ref ax), .val (.int (Int32.ofNat ek)), .val (.int (Int32.ofNat (bo.getD ek 0))), .val (.int (Int32.ofNat (lo.getD ek 0))), .val (.int (Int32.ofNat ((sta.getD (bo.getD ek 0) 0) + (mk.getD (bo.getD ek 0) 0)))), .val (.int (Int32.ofNat (el.getD ((sta.getD (bo.getD ek 0) 0) + (mk.getD (bo.getD ek 0) 0)) 0)))] [(.ref b7)])) _
      refine XS.aloadN X49.here hx rfl (hb hby d6_88) rfl rfl ?_
      refine XS.dup X49.here hx rfl (hb hby d6_89) rfl rfl ?_
      exact k)
    obtain ⟨T52, X52, e52, st52⟩ := gGet X49 hx hZ hown (host := "") (Or.inl (hw _ (List.mem_of_getElem? (i := 56) rfl))) e49 R44 0 8 rfl rfl (g := (mkF m 90 #[.val (.ref ax), .val (.int (Int32.ofNat ek)), .val (.int (Int32.ofNat (bo.getD ek 0))), .val (.int (Int32.ofNat (lo.getD ek 0))), .val (.int (Int32.ofNat ((sta.getD (bo.getD ek 0) 0) + (mk.getD (bo.getD ek 0) 0)))), .val (.int (Int32.ofNat (el.getD ((sta.getD (bo.getD ek 0) 0) + (mk.getD (bo.getD ek 0) 0)) 0)))] [(.ref ax), (.ref ax), (.ref b7)])) rfl rfl (hb hby d6_90)
    have pre53 : ∀ t, Steps p.tables e below (T52.setTop (mkF m 93 #[.val (.ref ax), .val (.int (Int32.ofNat ek)), .val (.int (Int32.ofNat (bo.getD ek 0))), .val (.int (Int32.ofNat (lo.getD ek 0))), .val (.int (Int32.ofNat ((sta.getD (bo.getD ek 0) 0) + (mk.getD (bo.getD ek 0) 0)))), .val (.int (Int32.ofNat (el.getD ((sta.getD (bo.getD ek 0) 0) + (mk.getD (bo.getD ek 0) 0)) 0)))] [(.int (Int32.ofNat tc)), (.ref ax), (.ref b7)])) t → Steps p.tables e below (s₁.setTop (entryFrame m #[(.ref ax), (.int (Int32.ofNat ek))] 6)) t := fun t k => pre51 t (st52 t k)
    have pre54 : ∀ t, Steps p.tables e below (T52.setTop (mkF m 96 #[.val (.ref ax), .val (.int (Int32.ofNat ek)), .val (.int (Int32.ofNat (bo.getD ek 0))), .val (.int (Int32.ofNat (lo.getD ek 0))), .val (.int (Int32.ofNat ((sta.getD (bo.getD ek 0) 0) + (mk.getD (bo.getD ek 0) 0)))), .val (.int (Int32.ofNat (el.getD ((sta.getD (bo.getD ek 0) 0) + (mk.getD (bo.getD ek 0) 0)) 0)))] [(.int (Int32.ofNat (tc + 1))), (.ref ax), (.int (Int32.ofNat tc)), (.ref b7)])) t → Steps p.tables e below (s₁.setTop (entryFrame m #[(.ref ax), (.int (Int32.ofNat ek))] 6)) t := fun t k => pre53 t (by
      show Steps p.tables e below (T52.setTop (mkF m 93 #[.val (.ref ax), .val (.int (Int32.ofNat ek)), .val (.int (Int32.ofNat (bo.getD ek 0))), .val (.int (Int32.ofNat (lo.getD ek 0))), .val (.int (Int32.ofNat ((sta.getD (bo.getD ek 0) 0) + (mk.getD (bo.getD ek 0) 0)))), .val (.int (Int32.ofNat (el.getD ((sta.getD (bo.getD ek 0) 0) + (mk.getD (bo.getD ek 0) 0)) 0)))] [(.int (Int32.ofNat tc)), (.ref ax), (.ref b7)])) _
      refine XS.dupX1 X52.here hx rfl (hb hby d6_93) rfl rfl rfl ?_
      refine XS.iconst X52.here hx rfl (hb hby d6_94) ?_
      refine XS.iadd X52.here hx rfl (hb hby d6_95) rfl ?_
      change Steps p.tables e below (T52.setTop (mkF m 96 #[.val (.ref ax), .val (.int (Int32.ofNat ek)), .val (.int (Int32.ofNat (bo.getD ek 0))), .val (.int (Int32.ofNat (lo.getD ek 0))), .val (.int (Int32.ofNat ((sta.getD (bo.getD ek 0) 0) + (mk.getD (bo.getD ek 0) 0)))), .val (.int (Int32.ofNat (el.getD ((sta.getD (bo.getD ek 0) 0) + (mk.getD (bo.getD ek 0) 0)) 0)))] [(.int ((Int32.ofNat tc) + (1 : Int32))), (.ref ax), (.int (Int32.ofNat tc)), (.ref b7)])) _
      rw [n_one]
      exact k)
    obtain ⟨T55, h55, ls55, X55, e55, N55, R55, st55⟩ := gPut X52 hx hZ hown (host := "") (Or.inl (hw _ (List.mem_of_getElem? (i := 56) rfl))) e52 N44 R44 0 8 rfl rfl (Or.inl (hw _ (List.mem_of_getElem? (i := 57) rfl))) (hw _ (List.mem_of_getElem? (i := 3) rfl)) (ty := .int) (by decide) rfl rfl (g := (mkF m 96 #[.val (.ref ax), .val (.int (Int32.ofNat ek)), .val (.int (Int32.ofNat (bo.getD ek 0))), .val (.int (Int32.ofNat (lo.getD ek 0))), .val (.int (Int32.ofNat ((sta.getD (bo.getD ek 0) 0) + (mk.getD (bo.getD ek 0) 0)))), .val (.int (Int32.ofNat (el.getD ((sta.getD (bo.getD ek 0) 0) + (mk.getD (bo.getD ek 0) 0)) 0)))] [(.int (Int32.ofNat (tc + 1))), (.ref ax), (.int (Int32.ofNat tc)), (.ref b7)])) rfl rfl (hb hby d6_96)
    replace R55 : Rep Z n0 h55 ((ax, Obj "com/example/witgen/witgen/regex/Partition" [("elements", "[I", (.ref b1)), ("location", "[I", (.ref b2)), ("blockOf", "[I", (.ref b3)), ("start", "[I", (.ref b4)), ("end", "[I", (.ref b5)), ("marked", "[I", (.ref b6)), ("touched", "[I", (.ref b7)), ("blocks", "I", (.int (Int32.ofNat cnt))), ("touchedCount", "I", (.int (Int32.ofNat (tc + 1))))]) :: (b1, Ar .int (nl ((el.set ((sta.getD (bo.getD ek 0) 0) + (mk.getD (bo.getD ek 0) 0)) ek).set (lo.getD ek 0) (el.getD ((sta.getD (bo.getD ek 0) 0) + (mk.getD (bo.getD ek 0) 0)) 0)))) :: (b2, Ar .int (nl ((lo.set ek ((sta.getD (bo.getD ek 0) 0) + (mk.getD (bo.getD ek 0) 0))).set (el.getD ((sta.getD (bo.getD ek 0) 0) + (mk.getD (bo.getD ek 0) 0)) 0) (lo.getD ek 0)))) :: (b3, Ar .int (nl bo)) :: (b4, Ar .int (nl sta)) :: (b6, Ar .int (nl (mk.set (bo.getD ek 0) ((mk.getD (bo.getD ek 0) 0) + 1)))) :: (b7, Ar .int (nl to)) :: Rst) := R55
    have pre56 : ∀ t, Steps p.tables e below (T55.setTop (mkF m 99 #[.val (.ref ax), .val (.int (Int32.ofNat ek)), .val (.int (Int32.ofNat (bo.getD ek 0))), .val (.int (Int32.ofNat (lo.getD ek 0))), .val (.int (Int32.ofNat ((sta.getD (bo.getD ek 0) 0) + (mk.getD (bo.getD ek 0) 0)))), .val (.int (Int32.ofNat (el.getD ((sta.getD (bo.getD ek 0) 0) + (mk.getD (bo.getD ek 0) 0)) 0)))] [(.int (Int32.ofNat tc)), (.ref b7)])) t → Steps p.tables e below (s₁.setTop (entryFrame m #[(.ref ax), (.int (Int32.ofNat ek))] 6)) t := fun t k => pre54 t (st55 t k)
    have pre57 : ∀ t, Steps p.tables e below (T55.setTop (mkF m 100 #[.val (.ref ax), .val (.int (Int32.ofNat ek)), .val (.int (Int32.ofNat (bo.getD ek 0))), .val (.int (Int32.ofNat (lo.getD ek 0))), .val (.int (Int32.ofNat ((sta.getD (bo.getD ek 0) 0) + (mk.getD (bo.getD ek 0) 0)))), .val (.int (Int32.ofNat (el.getD ((sta.getD (bo.getD ek 0) 0) + (mk.getD (bo.getD ek 0) 0)) 0)))] [(.int (Int32.ofNat (bo.getD ek 0))), (.int (Int32.ofNat tc)), (.ref b7)])) t → Steps p.tables e below (s₁.setTop (entryFrame m #[(.ref ax), (.int (Int32.ofNat ek))] 6)) t := fun t k => pre56 t (by
      show Steps p.tables e below (T55.setTop (mkF m 99 #[.val (.ref ax), .val (.int (Int32.ofNat ek)), .val (.int (Int32.ofNat (bo.getD ek 0))), .val (.int (Int32.ofNat (lo.getD ek 0))), .val (.int (Int32.ofNat ((sta.getD (bo.getD ek 0) 0) + (mk.getD (bo.getD ek 0) 0)))), .val (.int (Int32.ofNat (el.getD ((sta.getD (bo.getD ek 0) 0) + (mk.getD (bo.getD ek 0) 0)) 0)))] [(.int (Int32.ofNat tc)), (.ref b7)])) _
      refine XS.iloadN X55.here hx rfl (hb hby d6_99) rfl ?_
      exact k)
    obtain ⟨T58, h58, ls58, X58, e58, N58, R58, st58⟩ := gIst X55 hx hZ e55 N55 R55 6 rfl (j := (Int32.ofNat tc)) (n_nn (q15)) (tc) (n_ix (q15)) (nl_lt (q14)) (g := (mkF m 100 #[.val (.ref ax), .val (.int (Int32.ofNat ek)), .val (.int (Int32.ofNat (bo.getD ek 0))), .val (.int (Int32.ofNat (lo.getD ek 0))), .val (.int (Int32.ofNat ((sta.getD (bo.getD ek 0) 0) + (mk.getD (bo.getD ek 0) 0)))), .val (.int (Int32.ofNat (el.getD ((sta.getD (bo.getD ek 0) 0) + (mk.getD (bo.getD ek 0) 0)) 0)))] [(.int (Int32.ofNat (bo.getD ek 0))), (.int (Int32.ofNat tc)), (.ref b7)])) rfl rfl (hb hby d6_100)
    replace R58 : Rep Z n0 h58 ((ax, Obj "com/example/witgen/witgen/regex/Partition" [("elements", "[I", (.ref b1)), ("location", "[I", (.ref b2)), ("blockOf", "[I", (.ref b3)), ("start", "[I", (.ref b4)), ("end", "[I", (.ref b5)), ("marked", "[I", (.ref b6)), ("touched", "[I", (.ref b7)), ("blocks", "I", (.int (Int32.ofNat cnt))), ("touchedCount", "I", (.int (Int32.ofNat (tc + 1))))]) :: (b1, Ar .int (nl ((el.set ((sta.getD (bo.getD ek 0) 0) + (mk.getD (bo.getD ek 0) 0)) ek).set (lo.getD ek 0) (el.getD ((sta.getD (bo.getD ek 0) 0) + (mk.getD (bo.getD ek 0) 0)) 0)))) :: (b2, Ar .int (nl ((lo.set ek ((sta.getD (bo.getD ek 0) 0) + (mk.getD (bo.getD ek 0) 0))).set (el.getD ((sta.getD (bo.getD ek 0) 0) + (mk.getD (bo.getD ek 0) 0)) 0) (lo.getD ek 0)))) :: (b3, Ar .int (nl bo)) :: (b4, Ar .int (nl sta)) :: (b6, Ar .int (nl (mk.set (bo.getD ek 0) ((mk.getD (bo.getD ek 0) 0) + 1)))) :: (b7, Ar .int (nl (to.set tc (bo.getD ek 0)))) :: Rst) := by rw [← nl_set to tc (bo.getD ek 0)]; exact R58
    have pre59 : ∀ t, Steps p.tables e below (T58.setTop (mkF m 101 #[.val (.ref ax), .val (.int (Int32.ofNat ek)), .val (.int (Int32.ofNat (bo.getD ek 0))), .val (.int (Int32.ofNat (lo.getD ek 0))), .val (.int (Int32.ofNat ((sta.getD (bo.getD ek 0) 0) + (mk.getD (bo.getD ek 0) 0)))), .val (.int (Int32.ofNat (el.getD ((sta.getD (bo.getD ek 0) 0) + (mk.getD (bo.getD ek 0) 0)) 0)))] [])) t → Steps p.tables e below (s₁.setTop (entryFrame m #[(.ref ax), (.int (Int32.ofNat ek))] 6)) t := fun t k => pre57 t (st58 t k)
    obtain ⟨fs, hr, hrun, hended, hW, hsame⟩ := X58.leave (v := none) (fun _ => rfl)
    refine ⟨_, _, pre59 _ ?_, hrun, hended, _, _, rfl, ?_, ⟨_, rfl⟩, hW, hsame.mono (by decide) (by decide)⟩
    · show Steps p.tables e below (T58.setTop (mkF m 101 #[.val (.ref ax), .val (.int (Int32.ofNat ek)), .val (.int (Int32.ofNat (bo.getD ek 0))), .val (.int (Int32.ofNat (lo.getD ek 0))), .val (.int (Int32.ofNat ((sta.getD (bo.getD ek 0) 0) + (mk.getD (bo.getD ek 0) 0)))), .val (.int (Int32.ofNat (el.getD ((sta.getD (bo.getD ek 0) 0) + (mk.getD (bo.getD ek 0) 0)) 0)))] [])) _
      exact X58.returnOut hx Bd.returns (hb hby d6_101) hr
    · show Q6 Z ax ek b1 b2 b3 b4 b5 b6 b7 cnt tc el lo bo sta mk to n0 Rst _ T58.heap _
      rw [e58]
      exact ⟨rfl, N58, (by have z : mk.getD (mB bo ek) 0 = 0 := n_inj (n := 0) hb46 q13 (by decide); rw [mTo, mTc, if_pos z, if_pos z]; exact R58)⟩
  · have pre60 : ∀ t, Steps p.tables e below (T44.setTop (mkF m 101 #[.val (.ref ax), .val (.int (Int32.ofNat ek)), .val (.int (Int32.ofNat (bo.getD ek 0))), .val (.int (Int32.ofNat (lo.getD ek 0))), .val (.int (Int32.ofNat ((sta.getD (bo.getD ek 0) 0) + (mk.getD (bo.getD ek 0) 0)))), .val (.int (Int32.ofNat (el.getD ((sta.getD (bo.getD ek 0) 0) + (mk.getD (bo.getD ek 0) 0)) 0)))] [])) t → Steps p.tables e below (s₁.setTop (entryFrame m #[(.ref ax), (.int (Int32.ofNat ek))] 6)) t := fun t k => pre45 t (by show Steps p.tables e below (T44.setTop (mkF m 81 #[.val (.ref ax), .val (.int (Int32.ofNat ek)), .val (.int (Int32.ofNat (bo.getD ek 0))), .val (.int (Int32.ofNat (lo.getD ek 0))), .val (.int (Int32.ofNat ((sta.getD (bo.getD ek 0) 0) + (mk.getD (bo.getD ek 0) 0)))), .val (.int (Int32.ofNat (el.getD ((sta.getD (bo.getD ek 0) 0) + (mk.getD (bo.getD ek 0) 0)) 0)))] [(.int (Int32.ofNat (mk.getD (bo.getD ek 0) 0)))])) _; refine XS.ifYes X44.here hx rfl (pc0 := 81) (pc' := 101) rfl (hb hby d6_81) rfl ((if0 _ _).trans (feq hb46).2) (by decide) (by decide) ?_; exact k)
    obtain ⟨fs, hr, hrun, hended, hW, hsame⟩ := X44.leave (v := none) (fun _ => rfl)
    refine ⟨_, _, pre60 _ ?_, hrun, hended, _, _, rfl, ?_, ⟨_, rfl⟩, hW, hsame.mono (by decide) (by decide)⟩
    · show Steps p.tables e below (T44.setTop (mkF m 101 #[.val (.ref ax), .val (.int (Int32.ofNat ek)), .val (.int (Int32.ofNat (bo.getD ek 0))), .val (.int (Int32.ofNat (lo.getD ek 0))), .val (.int (Int32.ofNat ((sta.getD (bo.getD ek 0) 0) + (mk.getD (bo.getD ek 0) 0)))), .val (.int (Int32.ofNat (el.getD ((sta.getD (bo.getD ek 0) 0) + (mk.getD (bo.getD ek 0) 0)) 0)))] [])) _
      exact X44.returnOut hx Bd.returns (hb hby d6_101) hr
    · show Q6 Z ax ek b1 b2 b3 b4 b5 b6 b7 cnt tc el lo bo sta mk to n0 Rst _ T44.heap _
      rw [e44]
      exact ⟨rfl, N44, (by have z : ¬ mk.getD (mB bo ek) 0 = 0 := fun q => hb46 (by show Int32.ofNat (mk.getD (mB bo ek) 0) = 0; rw [q]; rfl); rw [mTo, mTc, if_neg z, if_neg z]; exact R44)⟩
theorem d7_0 : decode prog_15_method_5_code 0 = .ok (.aload_n 0, 1) := by decide +kernel
theorem d7_1 : decode prog_15_method_5_code 1 = .ok (.getfield 19, 3) := by decide +kernel
theorem d7_4 : decode prog_15_method_5_code 4 = .ok (.iload_n 1, 1) := by decide +kernel
theorem d7_5 : decode prog_15_method_5_code 5 = .ok (.iaload, 1) := by decide +kernel
theorem d7_6 : decode prog_15_method_5_code 6 = .ok (.aload_n 0, 1) := by decide +kernel
theorem d7_7 : decode prog_15_method_5_code 7 = .ok (.getfield 30, 3) := by decide +kernel
theorem d7_10 : decode prog_15_method_5_code 10 = .ok (.aload_n 0, 1) := by decide +kernel
theorem d7_11 : decode prog_15_method_5_code 11 = .ok (.getfield 27, 3) := by decide +kernel
theorem d7_14 : decode prog_15_method_5_code 14 = .ok (.iload_n 1, 1) := by decide +kernel
theorem d7_15 : decode prog_15_method_5_code 15 = .ok (.iaload, 1) := by decide +kernel
theorem d7_16 : decode prog_15_method_5_code 16 = .ok (.iaload, 1) := by decide +kernel
theorem d7_17 : decode prog_15_method_5_code 17 = .ok (.if_icmp .ne 7, 3) := by decide +kernel
theorem d7_20 : decode prog_15_method_5_code 20 = .ok (.iconst 1, 1) := by decide +kernel
theorem d7_21 : decode prog_15_method_5_code 21 = .ok (.goto 4, 3) := by decide +kernel
theorem d7_24 : decode prog_15_method_5_code 24 = .ok (.iconst 0, 1) := by decide +kernel
theorem d7_25 : decode prog_15_method_5_code 25 = .ok (.ireturn, 1) := by decide +kernel
theorem ef_7 (m : MethodId) (x0 : Addr) (x1 : Nat) : entryFrame m #[(.ref x0), (.int (Int32.ofNat x1))] 2 = mkF m 0 #[.val (.ref x0), .val (.int (Int32.ofNat x1))] [] := by first | (simp [entryFrame, mkF, argsToLocals, Value.category]; done) | rfl
def F7 (ek : Nat) (lo : List Nat) (bo : List Nat) (sta : List Nat) : Int32 :=
  (bz ((Int32.ofNat (lo.getD ek 0)) = (Int32.ofNat (sta.getD (bo.getD ek 0) 0))))
def Q7 (Z : State) (ax : Addr) (ek : Nat) (b1 : Addr) (b2 : Addr) (b3 : Addr) (b4 : Addr) (b5 : Addr) (b6 : Addr) (b7 : Addr) (cnt : Nat) (tc : Nat) (lo : List Nat) (bo : List Nat) (sta : List Nat) (n0 : Nat) (Rst : RL) (v : Option Value) (h : Heap) (L : List Loc) : Prop := v = some (.int (F7 ek lo bo sta)) ∧ Fr n0 L ∧ Rep Z n0 h ((ax, Obj "com/example/witgen/witgen/regex/Partition" [("elements", "[I", (.ref b1)), ("location", "[I", (.ref b2)), ("blockOf", "[I", (.ref b3)), ("start", "[I", (.ref b4)), ("end", "[I", (.ref b5)), ("marked", "[I", (.ref b6)), ("touched", "[I", (.ref b7)), ("blocks", "I", (.int (Int32.ofNat cnt))), ("touchedCount", "I", (.int (Int32.ofNat tc)))]) :: (b2, Ar .int (nl lo)) :: (b3, Ar .int (nl bo)) :: (b4, Ar .int (nl sta)) :: Rst)
set_option maxRecDepth 65536 in
set_option maxHeartbeats 40000000 in
theorem rm7 (l : Launch) (Z : State) (a0 : Array Value) (hw : ∀ d ∈ tables_1, d.before a0 Z = true) (ws : List Jvm.Cond) (ax : Addr) (ek : Nat) (b1 : Addr) (b2 : Addr) (b3 : Addr) (b4 : Addr) (b5 : Addr) (b6 : Addr) (b7 : Addr) (cnt : Nat) (tc : Nat) (lo : List Nat) (bo : List Nat) (sta : List Nat) (h0 : Heap) (n0 : Nat) (Rst : RL) (R0 : Rep Z n0 h0 ((ax, Obj "com/example/witgen/witgen/regex/Partition" [("elements", "[I", (.ref b1)), ("location", "[I", (.ref b2)), ("blockOf", "[I", (.ref b3)), ("start", "[I", (.ref b4)), ("end", "[I", (.ref b5)), ("marked", "[I", (.ref b6)), ("touched", "[I", (.ref b7)), ("blocks", "I", (.int (Int32.ofNat cnt))), ("touchedCount", "I", (.int (Int32.ofNat tc)))]) :: (b2, Ar .int (nl lo)) :: (b3, Ar .int (nl bo)) :: (b4, Ar .int (nl sta)) :: Rst)) (hin5 : ek < lo.length) (hbd5 : ek < 1000) (hin15 : ek < bo.length) (hbd15 : ek < 1000) (hin16 : (bo.getD ek 0) < sta.length) (hbd16 : (bo.getD ek 0) < 1000) :
    MetFree l (⟨"com/example/witgen/witgen/regex/Partition", "isFirstOfBlock", "(I)Z"⟩ : MethodName) (head1 (Jvm.Cond.code (⟨"com/example/witgen/witgen/regex/Partition", "isFirstOfBlock", "(I)Z"⟩ : MethodName) prog_15_method_5_code 2 (some .boolean) :: ws) ({ frames := 0, cells := 0, slots := 0, locals := 0 } : Room)) (fun a U => a = #[(.ref ax), (.int (Int32.ofNat ek))] ∧ Z.Warmed39 U.vm ∧ U.heap = h0) (fun _ _ _ _ _ => True) (fun _ U o U' => ∃ v L, o = .returned v ∧ Q7 Z ax ek b1 b2 b3 b4 b5 b6 b7 cnt tc lo bo sta n0 Rst v U'.heap L ∧ FrameEnd U o U' L ({ frames := 0, cells := 0, slots := 0, locals := 0 } : Room).cells ({ frames := 0, cells := 0, slots := 0, locals := 0 } : Room).slots) := by
  refine MetFree.of_bodySF (plainFor_of_name pn_com_example_witgen_witgen_regex_Partition) hisR ?_
  intro p e s m args below meth c s₁ Bd hml0 hP hK
  obtain ⟨rfl, hZ, hh⟩ := hP
  have hx := Bd.exec
  have hby := Bd.bytes
  have hml : c.maxLocals = 2 := hml0
  have hown : s.vm.findClass "com/example/witgen/witgen/regex/Partition" = some m.cls := findClass_of_methodNamed Bd.named
  have hnm := (name_of_methodNamed Bd.named Bd.method).1
  have X0 : Stand p l e ({ frames := 0, cells := 0, slots := 0, locals := 0 } : Room) s m #[(.ref ax), (.int (Int32.ofNat ek))] below meth c s₁ [] 0 0 := Stand.of_body Bd
  have e0 : s₁.heap = h0 := by rw [← hh, Bd.state]; rfl
  have N0 := Fr.nil n0
  have pre0 : ∀ t, Steps p.tables e below (s₁.setTop (mkF m 0 #[.val (.ref ax), .val (.int (Int32.ofNat ek))] [])) t → Steps p.tables e below (s₁.setTop (entryFrame m #[(.ref ax), (.int (Int32.ofNat ek))] 2)) t := fun t k => castTop (ef_7 m ax ek) k
  have pre1 : ∀ t, Steps p.tables e below (s₁.setTop (mkF m 1 #[.val (.ref ax), .val (.int (Int32.ofNat ek))] [(.ref ax)])) t → Steps p.tables e below (s₁.setTop (entryFrame m #[(.ref ax), (.int (Int32.ofNat ek))] 2)) t := fun t k => pre0 t (by
    show Steps p.tables e below (s₁.setTop (mkF m 0 #[.val (.ref ax), .val (.int (Int32.ofNat ek))] [])) _
    refine XS.aloadN X0.here hx rfl (hb hby d7_0) rfl rfl ?_
    exact k)
  obtain ⟨T2, X2, e2, st2⟩ := gGet X0 hx hZ hown (host := "") (Or.inl (hw _ (List.mem_of_getElem? (i := 17) rfl))) e0 R0 0 1 rfl rfl (g := (mkF m 1 #[.val (.ref ax), .val (.int (Int32.ofNat ek))] [(.ref ax)])) rfl rfl (hb hby d7_1)
  have pre3 : ∀ t, Steps p.tables e below (T2.setTop (mkF m 4 #[.val (.ref ax), .val (.int (Int32.ofNat ek))] [(.ref b2)])) t → Steps p.tables e below (s₁.setTop (entryFrame m #[(.ref ax), (.int (Int32.ofNat ek))] 2)) t := fun t k => pre1 t (st2 t k)
  have pre4 : ∀ t, Steps p.tables e below (T2.setTop (mkF m 7 #[.val (.ref ax), .val (.int (Int32.ofNat ek))] [(.ref ax), (.int (Int32.ofNat (lo.getD ek 0)))])) t → Steps p.tables e below (s₁.setTop (entryFrame m #[(.ref ax), (.int (Int32.ofNat ek))] 2)) t := fun t k => pre3 t (by
    show Steps p.tables e below (T2.setTop (mkF m 4 #[.val (.ref ax), .val (.int (Int32.ofNat ek))] [(.ref b2)])) _
    refine XS.iloadN X2.here hx rfl (hb hby d7_4) rfl ?_
    refine gIald X2 hx hZ e2 R0 1 rfl (j := (Int32.ofNat ek)) (v := (.int (Int32.ofNat (lo.getD ek 0)))) (n_nn hbd5) (nl_at hin5 hbd5) (g := (mkF m 5 #[.val (.ref ax), .val (.int (Int32.ofNat ek))] [(.int (Int32.ofNat ek)), (.ref b2)])) rfl rfl (hb hby d7_5) _ ?_
    refine XS.aloadN X2.here hx rfl (hb hby d7_6) rfl rfl ?_
    exact k)
  obtain ⟨T5, X5, e5, st5⟩ := gGet X2 hx hZ hown (host := "") (Or.inl (hw _ (List.mem_of_getElem? (i := 30) rfl))) e2 R0 0 3 rfl rfl (g := (mkF m 7 #[.val (.ref ax), .val (.int (Int32.ofNat ek))] [(.ref ax), (.int (Int32.ofNat (lo.getD ek 0)))])) rfl rfl (hb hby d7_7)
  have pre6 : ∀ t, Steps p.tables e below (T5.setTop (mkF m 10 #[.val (.ref ax), .val (.int (Int32.ofNat ek))] [(.ref b4), (.int (Int32.ofNat (lo.getD ek 0)))])) t → Steps p.tables e below (s₁.setTop (entryFrame m #[(.ref ax), (.int (Int32.ofNat ek))] 2)) t := fun t k => pre4 t (st5 t k)
  have pre7 : ∀ t, Steps p.tables e below (T5.setTop (mkF m 11 #[.val (.ref ax), .val (.int (Int32.ofNat ek))] [(.ref ax), (.ref b4), (.int (Int32.ofNat (lo.getD ek 0)))])) t → Steps p.tables e below (s₁.setTop (entryFrame m #[(.ref ax), (.int (Int32.ofNat ek))] 2)) t := fun t k => pre6 t (by
    show Steps p.tables e below (T5.setTop (mkF m 10 #[.val (.ref ax), .val (.int (Int32.ofNat ek))] [(.ref b4), (.int (Int32.ofNat (lo.getD ek 0)))])) _
    refine XS.aloadN X5.here hx rfl (hb hby d7_10) rfl rfl ?_
    exact k)
  obtain ⟨T8, X8, e8, st8⟩ := gGet X5 hx hZ hown (host := "") (Or.inl (hw _ (List.mem_of_getElem? (i := 28) rfl))) e5 R0 0 2 rfl rfl (g := (mkF m 11 #[.val (.ref ax), .val (.int (Int32.ofNat ek))] [(.ref ax), (.ref b4), (.int (Int32.ofNat (lo.getD ek 0)))])) rfl rfl (hb hby d7_11)
  have pre9 : ∀ t, Steps p.tables e below (T8.setTop (mkF m 14 #[.val (.ref ax), .val (.int (Int32.ofNat ek))] [(.ref b3), (.ref b4), (.int (Int32.ofNat (lo.getD ek 0)))])) t → Steps p.tables e below (s₁.setTop (entryFrame m #[(.ref ax), (.int (Int32.ofNat ek))] 2)) t := fun t k => pre7 t (st8 t k)
  have pre12 : ∀ t, Steps p.tables e below (T8.setTop (mkF m 17 #[.val (.ref ax), .val (.int (Int32.ofNat ek))] [(.int (Int32.ofNat (sta.getD (bo.getD ek 0) 0))), (.int (Int32.ofNat (lo.getD ek 0)))])) t → Steps p.tables e below (s₁.setTop (entryFrame m #[(.ref ax), (.int (Int32.ofNat ek))] 2)) t := fun t k => pre9 t (by
    show Steps p.tables e below (T8.setTop (mkF m 14 #[.val (.ref ax), .val (.int (Int32.ofNat ek))] [(.ref b3), (.ref b4), (.int (Int32.ofNat (lo.getD ek 0)))])) _
    refine XS.iloadN X8.here hx rfl (hb hby d7_14) rfl ?_
    refine gIald X8 hx hZ e8 R0 2 rfl (j := (Int32.ofNat ek)) (v := (.int (Int32.ofNat (bo.getD ek 0)))) (n_nn hbd15) (nl_at hin15 hbd15) (g := (mkF m 15 #[.val (.ref ax), .val (.int (Int32.ofNat ek))] [(.int (Int32.ofNat ek)), (.ref b3), (.ref b4), (.int (Int32.ofNat (lo.getD ek 0)))])) rfl rfl (hb hby d7_15) _ ?_
    refine gIald X8 hx hZ e8 R0 3 rfl (j := (Int32.ofNat (bo.getD ek 0))) (v := (.int (Int32.ofNat (sta.getD (bo.getD ek 0) 0)))) (n_nn hbd16) (nl_at hin16 hbd16) (g := (mkF m 16 #[.val (.ref ax), .val (.int (Int32.ofNat ek))] [(.int (Int32.ofNat (bo.getD ek 0))), (.ref b4), (.int (Int32.ofNat (lo.getD ek 0)))])) rfl rfl (hb hby d7_16) _ ?_
    exact k)
  have tl11 : ∀ t, Steps p.tables e below (T8.setTop (mkF m 25 #[.val (.ref ax), .val (.int (Int32.ofNat ek))] [(.int (bz ((Int32.ofNat (lo.getD ek 0)) = (Int32.ofNat (sta.getD (bo.getD ek 0) 0)))))])) t → Steps p.tables e below (T8.setTop (mkF m 17 #[.val (.ref ax), .val (.int (Int32.ofNat ek))] [(.int (Int32.ofNat (sta.getD (bo.getD ek 0) 0))), (.int (Int32.ofNat (lo.getD ek 0)))])) t := fun t k => by
    by_cases hb10 : (Int32.ofNat (lo.getD ek 0)) = (Int32.ofNat (sta.getD (bo.getD ek 0) 0))
    · refine XS.icmpNo X8.here hx rfl (hb hby d7_17) rfl (teq hb10).2 ?_
      rw [bz_one (P := ((Int32.ofNat (lo.getD ek 0)) = (Int32.ofNat (sta.getD (bo.getD ek 0) 0)))) (iff_true_intro hb10)] at k
      show Steps p.tables e below (T8.setTop (mkF m 20 #[.val (.ref ax), .val (.int (Int32.ofNat ek))] [])) _
      refine XS.iconst X8.here hx rfl (hb hby d7_20) ?_
      refine XS.goto X8.here hx rfl (pc0 := 21) (pc' := 25) rfl (hb hby d7_21) (by decide) (by decide) ?_
      exact k
    · refine XS.icmpYes X8.here hx rfl (pc0 := 17) (pc' := 24) rfl (hb hby d7_17) rfl (feq hb10).2 (by decide) (by decide) ?_
      rw [bz_zero (P := ((Int32.ofNat (lo.getD ek 0)) = (Int32.ofNat (sta.getD (bo.getD ek 0) 0)))) (iff_false_intro hb10)] at k
      show Steps p.tables e below (T8.setTop (mkF m 24 #[.val (.ref ax), .val (.int (Int32.ofNat ek))] [])) _
      refine XS.iconst X8.here hx rfl (hb hby d7_24) ?_
      exact k
  have pre13 : ∀ t, Steps p.tables e below (T8.setTop (mkF m 25 #[.val (.ref ax), .val (.int (Int32.ofNat ek))] [(.int (bz ((Int32.ofNat (lo.getD ek 0)) = (Int32.ofNat (sta.getD (bo.getD ek 0) 0)))))])) t → Steps p.tables e below (s₁.setTop (entryFrame m #[(.ref ax), (.int (Int32.ofNat ek))] 2)) t := fun t k => pre12 t (by
    exact tl11 t k)
  obtain ⟨fs, hr, hrun, hended, hW, hsame⟩ := X8.leave (v := some (.int (nar .boolean (bz ((Int32.ofNat (lo.getD ek 0)) = (Int32.ofNat (sta.getD (bo.getD ek 0) 0))))))) (fun h => by rw [Bd.returns] at h; cases h)
  refine ⟨_, _, pre13 _ ?_, hrun, hended, _, _, rfl, ?_, ⟨_, rfl⟩, hW, hsame.mono (by decide) (by decide)⟩
  · show Steps p.tables e below (T8.setTop (mkF m 25 #[.val (.ref ax), .val (.int (Int32.ofNat ek))] [(.int (bz ((Int32.ofNat (lo.getD ek 0)) = (Int32.ofNat (sta.getD (bo.getD ek 0) 0)))))])) _
    exact retN X8 hx (t := .boolean) Bd.returns (by simp) (hb hby d7_25) hr
  · show Q7 Z ax ek b1 b2 b3 b4 b5 b6 b7 cnt tc lo bo sta n0 Rst _ T8.heap _
    rw [e8]
    exact ⟨(by exact congrArg (fun z => some (Value.int z)) (by simp only [F7] <;> first | rfl | exact nar_b _ | decide)), N0, R0⟩
theorem d8_0 : decode method_2_code 0 = .ok (.aload_n 0, 1) := by decide +kernel
theorem d8_1 : decode method_2_code 1 = .ok (.iload_n 1, 1) := by decide +kernel
theorem d8_2 : decode method_2_code 2 = .ok (.iaload, 1) := by decide +kernel
theorem d8_3 : decode method_2_code 3 = .ok (.istore 4, 2) := by decide +kernel
theorem d8_5 : decode method_2_code 5 = .ok (.iload_n 3, 1) := by decide +kernel
theorem d8_6 : decode method_2_code 6 = .ok (.ifCond .eq 22, 3) := by decide +kernel
theorem d8_28 : decode method_2_code 28 = .ok (.iload_n 1, 1) := by decide +kernel
theorem d8_29 : decode method_2_code 29 = .ok (.ifCond .le 11, 3) := by decide +kernel
theorem d8_32 : decode method_2_code 32 = .ok (.aload_n 0, 1) := by decide +kernel
theorem d8_33 : decode method_2_code 33 = .ok (.iconst 0, 1) := by decide +kernel
theorem d8_34 : decode method_2_code 34 = .ok (.iaload, 1) := by decide +kernel
theorem d8_35 : decode method_2_code 35 = .ok (.iload 4, 2) := by decide +kernel
theorem d8_37 : decode method_2_code 37 = .ok (.if_icmp .eq 29, 3) := by decide +kernel
theorem d8_66 : decode method_2_code 66 = .ok (.iconst 1, 1) := by decide +kernel
theorem d8_67 : decode method_2_code 67 = .ok (.goto 4, 3) := by decide +kernel
theorem d8_71 : decode method_2_code 71 = .ok (.istore 5, 2) := by decide +kernel
theorem d8_73 : decode method_2_code 73 = .ok (.iload 5, 2) := by decide +kernel
theorem d8_75 : decode method_2_code 75 = .ok (.ifCond .ne 7, 3) := by decide +kernel
theorem d8_82 : decode method_2_code 82 = .ok (.iconst 0, 1) := by decide +kernel
theorem d8_40 : decode method_2_code 40 = .ok (.iload_n 1, 1) := by decide +kernel
theorem d8_41 : decode method_2_code 41 = .ok (.iconst 1, 1) := by decide +kernel
theorem d8_42 : decode method_2_code 42 = .ok (.if_icmp .le 11, 3) := by decide +kernel
theorem d8_45 : decode method_2_code 45 = .ok (.aload_n 0, 1) := by decide +kernel
theorem d8_46 : decode method_2_code 46 = .ok (.iconst 1, 1) := by decide +kernel
theorem d8_47 : decode method_2_code 47 = .ok (.iaload, 1) := by decide +kernel
theorem d8_48 : decode method_2_code 48 = .ok (.iload 4, 2) := by decide +kernel
theorem d8_50 : decode method_2_code 50 = .ok (.if_icmp .eq 16, 3) := by decide +kernel
theorem d8_53 : decode method_2_code 53 = .ok (.iload_n 1, 1) := by decide +kernel
theorem d8_54 : decode method_2_code 54 = .ok (.iconst 2, 1) := by decide +kernel
theorem d8_55 : decode method_2_code 55 = .ok (.if_icmp .le 15, 3) := by decide +kernel
theorem d8_58 : decode method_2_code 58 = .ok (.aload_n 0, 1) := by decide +kernel
theorem d8_59 : decode method_2_code 59 = .ok (.iconst 2, 1) := by decide +kernel
theorem d8_60 : decode method_2_code 60 = .ok (.iaload, 1) := by decide +kernel
theorem d8_61 : decode method_2_code 61 = .ok (.iload 4, 2) := by decide +kernel
theorem d8_63 : decode method_2_code 63 = .ok (.if_icmp .ne 7, 3) := by decide +kernel
theorem d8_70 : decode method_2_code 70 = .ok (.iconst 0, 1) := by decide +kernel
theorem d8_78 : decode method_2_code 78 = .ok (.iconst 1, 1) := by decide +kernel
theorem d8_79 : decode method_2_code 79 = .ok (.goto 4, 3) := by decide +kernel
theorem d8_9 : decode method_2_code 9 = .ok (.aload_n 0, 1) := by decide +kernel
theorem d8_10 : decode method_2_code 10 = .ok (.iload_n 2, 1) := by decide +kernel
theorem d8_11 : decode method_2_code 11 = .ok (.iaload, 1) := by decide +kernel
theorem d8_12 : decode method_2_code 12 = .ok (.iload 4, 2) := by decide +kernel
theorem d8_14 : decode method_2_code 14 = .ok (.if_icmp .ne 14, 3) := by decide +kernel
theorem d8_17 : decode method_2_code 17 = .ok (.iload_n 1, 1) := by decide +kernel
theorem d8_18 : decode method_2_code 18 = .ok (.iload_n 2, 1) := by decide +kernel
theorem d8_19 : decode method_2_code 19 = .ok (.if_icmp .ne 7, 3) := by decide +kernel
theorem d8_22 : decode method_2_code 22 = .ok (.iconst 1, 1) := by decide +kernel
theorem d8_23 : decode method_2_code 23 = .ok (.goto 4, 3) := by decide +kernel
theorem d8_26 : decode method_2_code 26 = .ok (.iconst 0, 1) := by decide +kernel
theorem d8_83 : decode method_2_code 83 = .ok (.ireturn, 1) := by decide +kernel
theorem d8_27 : decode method_2_code 27 = .ok (.ireturn, 1) := by decide +kernel
theorem pn_com_example_witgen_witgen_regex_PartitionIsFirstOfBlockPinLaw : plainName "com/example/witgen/witgen/regex/PartitionIsFirstOfBlockPinLaw" = true := by first | (simp [plainName, overriddenIn]; done) | decide +kernel
theorem ef_8 (m : MethodId) (x0 : Addr) (x1 : Nat) (x2 : Nat) (x3 : Int32) : entryFrame m #[(.ref x0), (.int (Int32.ofNat x1)), (.int (Int32.ofNat x2)), (.int x3)] 6 = mkF m 0 #[.val (.ref x0), .val (.int (Int32.ofNat x1)), .val (.int (Int32.ofNat x2)), .val (.int x3), .unset, .unset] [] := by first | (simp [entryFrame, mkF, argsToLocals, Value.category]; done) | rfl
def F8 (ek : Nat) (mk : Nat) (dm : Int32) (es : List Nat) : Int32 :=
  (bz (if dm = (0 : Int32) then (((¬ ((0 : Int32) < (Int32.ofNat ek))) ∨ (¬ ((Int32.ofNat (es.getD 0 0)) = (Int32.ofNat (es.getD ek 0))))) ∧ (((¬ ((1 : Int32) < (Int32.ofNat ek))) ∨ (¬ ((Int32.ofNat (es.getD 1 0)) = (Int32.ofNat (es.getD ek 0))))) ∧ ((¬ ((2 : Int32) < (Int32.ofNat ek))) ∨ (¬ ((Int32.ofNat (es.getD 2 0)) = (Int32.ofNat (es.getD ek 0))))))) else (if (Int32.ofNat (es.getD mk 0)) = (Int32.ofNat (es.getD ek 0)) then ((Int32.ofNat ek) = (Int32.ofNat mk)) else (((¬ ((0 : Int32) < (Int32.ofNat ek))) ∨ (¬ ((Int32.ofNat (es.getD 0 0)) = (Int32.ofNat (es.getD ek 0))))) ∧ (((¬ ((1 : Int32) < (Int32.ofNat ek))) ∨ (¬ ((Int32.ofNat (es.getD 1 0)) = (Int32.ofNat (es.getD ek 0))))) ∧ ((¬ ((2 : Int32) < (Int32.ofNat ek))) ∨ (¬ ((Int32.ofNat (es.getD 2 0)) = (Int32.ofNat (es.getD ek 0))))))))))
def Q8 (Z : State) (ix : Addr) (ek : Nat) (mk : Nat) (dm : Int32) (es : List Nat) (n0 : Nat) (Rst : RL) (v : Option Value) (h : Heap) (L : List Loc) : Prop := v = some (.int (F8 ek mk dm es)) ∧ Fr n0 L ∧ Rep Z n0 h ((ix, Ar .int (nl es)) :: Rst)
set_option maxRecDepth 65536 in
set_option maxHeartbeats 40000000 in
theorem rm8 (l : Launch) (Z : State) (a0 : Array Value) (hw : ∀ d ∈ tables_1, d.before a0 Z = true) (ws : List Jvm.Cond) (ix : Addr) (ek : Nat) (mk : Nat) (dm : Int32) (es : List Nat) (h0 : Heap) (n0 : Nat) (Rst : RL) (R0 : Rep Z n0 h0 ((ix, Ar .int (nl es)) :: Rst)) (hin2 : ek < es.length) (hbd2 : ek < 1000) (hin34 : 0 < es.length) (hbd34 : 0 < 1000) (hin47 : 1 < es.length) (hbd47 : 1 < 1000) (hin60 : 2 < es.length) (hbd60 : 2 < 1000) (hin11 : mk < es.length) (hbd11 : mk < 1000) :
    MetFree l (⟨"com/example/witgen/witgen/regex/PartitionIsFirstOfBlockPinLaw", "firstRef", "([IIIZ)Z"⟩ : MethodName) (head1 (Jvm.Cond.code (⟨"com/example/witgen/witgen/regex/PartitionIsFirstOfBlockPinLaw", "firstRef", "([IIIZ)Z"⟩ : MethodName) method_2_code 6 (some .boolean) :: ws) ({ frames := 0, cells := 0, slots := 0, locals := 0 } : Room)) (fun a U => a = #[(.ref ix), (.int (Int32.ofNat ek)), (.int (Int32.ofNat mk)), (.int dm)] ∧ Z.Warmed39 U.vm ∧ U.heap = h0) (fun _ _ _ _ _ => True) (fun _ U o U' => ∃ v L, o = .returned v ∧ Q8 Z ix ek mk dm es n0 Rst v U'.heap L ∧ FrameEnd U o U' L ({ frames := 0, cells := 0, slots := 0, locals := 0 } : Room).cells ({ frames := 0, cells := 0, slots := 0, locals := 0 } : Room).slots) := by
  refine MetFree.of_bodySF (plainFor_of_name pn_com_example_witgen_witgen_regex_PartitionIsFirstOfBlockPinLaw) hisR ?_
  intro p e s m args below meth c s₁ Bd hml0 hP hK
  obtain ⟨rfl, hZ, hh⟩ := hP
  have hx := Bd.exec
  have hby := Bd.bytes
  have hml : c.maxLocals = 6 := hml0
  have hown : s.vm.findClass "com/example/witgen/witgen/regex/PartitionIsFirstOfBlockPinLaw" = some m.cls := findClass_of_methodNamed Bd.named
  have hnm := (name_of_methodNamed Bd.named Bd.method).1
  have X0 : Stand p l e ({ frames := 0, cells := 0, slots := 0, locals := 0 } : Room) s m #[(.ref ix), (.int (Int32.ofNat ek)), (.int (Int32.ofNat mk)), (.int dm)] below meth c s₁ [] 0 0 := Stand.of_body Bd
  have e0 : s₁.heap = h0 := by rw [← hh, Bd.state]; rfl
  have N0 := Fr.nil n0
  have pre0 : ∀ t, Steps p.tables e below (s₁.setTop (mkF m 0 #[.val (.ref ix), .val (.int (Int32.ofNat ek)), .val (.int (Int32.ofNat mk)), .val (.int dm), .unset, .unset] [])) t → Steps p.tables e below (s₁.setTop (entryFrame m #[(.ref ix), (.int (Int32.ofNat ek)), (.int (Int32.ofNat mk)), (.int dm)] 6)) t := fun t k => castTop (ef_8 m ix ek mk dm) k
  have pre1 : ∀ t, Steps p.tables e below (s₁.setTop (mkF m 6 #[.val (.ref ix), .val (.int (Int32.ofNat ek)), .val (.int (Int32.ofNat mk)), .val (.int dm), .val (.int (Int32.ofNat (es.getD ek 0))), .unset] [(.int dm)])) t → Steps p.tables e below (s₁.setTop (entryFrame m #[(.ref ix), (.int (Int32.ofNat ek)), (.int (Int32.ofNat mk)), (.int dm)] 6)) t := fun t k => pre0 t (by
    show Steps p.tables e below (s₁.setTop (mkF m 0 #[.val (.ref ix), .val (.int (Int32.ofNat ek)), .val (.int (Int32.ofNat mk)), .val (.int dm), .unset, .unset] [])) _
    refine XS.aloadN X0.here hx rfl (hb hby d8_0) rfl rfl ?_
    refine XS.iloadN X0.here hx rfl (hb hby d8_1) rfl ?_
    refine gIald X0 hx hZ e0 R0 0 rfl (j := (Int32.ofNat ek)) (v := (.int (Int32.ofNat (es.getD ek 0)))) (n_nn hbd2) (nl_at hin2 hbd2) (g := (mkF m 2 #[.val (.ref ix), .val (.int (Int32.ofNat ek)), .val (.int (Int32.ofNat mk)), .val (.int dm), .unset, .unset] [(.int (Int32.ofNat ek)), (.ref ix)])) rfl rfl (hb hby d8_2) _ ?_
    refine XS.istore X0.here hx rfl (hb hby d8_3) rfl (l' := #[.val (.ref ix), .val (.int (Int32.ofNat ek)), .val (.int (Int32.ofNat mk)), .val (.int dm), .val (.int (Int32.ofNat (es.getD ek 0))), .unset]) rfl ?_
    refine XS.iloadN X0.here hx rfl (hb hby d8_5) rfl ?_
    exact k)
  have tl9 : ∀ fs, (∀ (f : JFrame) (acts : List Action), f.method = m → f.locked = none → f.entered = [] → (doReturn e (s₁.setTop f) acts (some (.int (bz (¬ ((Int32.ofNat (es.getD 2 0)) = (Int32.ofNat (es.getD ek 0)))))))).1 = s₁.setFrames fs) → Steps p.tables e below (s₁.setTop (mkF m 63 #[.val (.ref ix), .val (.int (Int32.ofNat ek)), .val (.int (Int32.ofNat mk)), .val (.int dm), .val (.int (Int32.ofNat (es.getD ek 0))), .unset] [(.int (Int32.ofNat (es.getD ek 0))), (.int (Int32.ofNat (es.getD 2 0)))])) (s₁.setFrames fs) := fun fs k => by
    by_cases hb8 : (Int32.ofNat (es.getD 2 0)) = (Int32.ofNat (es.getD ek 0))
    · refine XS.icmpNo X0.here hx rfl (hb hby d8_63) rfl (teq hb8).2 ?_
      rw [bz_zero (P := (¬ ((Int32.ofNat (es.getD 2 0)) = (Int32.ofNat (es.getD ek 0))))) (iff_false_intro (not_not_intro hb8))] at k
      show Steps p.tables e below (s₁.setTop (mkF m 66 #[.val (.ref ix), .val (.int (Int32.ofNat ek)), .val (.int (Int32.ofNat mk)), .val (.int dm), .val (.int (Int32.ofNat (es.getD ek 0))), .unset] [])) _
      refine XS.iconst X0.here hx rfl (hb hby d8_66) ?_
      refine XS.goto X0.here hx rfl (pc0 := 67) (pc' := 71) rfl (hb hby d8_67) (by decide) (by decide) ?_
      refine XS.istore X0.here hx rfl (hb hby d8_71) rfl (l' := #[.val (.ref ix), .val (.int (Int32.ofNat ek)), .val (.int (Int32.ofNat mk)), .val (.int dm), .val (.int (Int32.ofNat (es.getD ek 0))), .val (.int (1 : Int32))]) rfl ?_
      refine XS.iload X0.here hx rfl (hb hby d8_73) rfl ?_
      refine XS.ifYes X0.here hx rfl (pc0 := 75) (pc' := 82) rfl (hb hby d8_75) rfl ((if0 _ _).trans (feq (show ¬ ((1 : Int32) = (0 : Int32)) from (by decide))).2) (by decide) (by decide) ?_
      refine XS.iconst X0.here hx rfl (hb hby d8_82) ?_
      exact retN X0 hx (t := .boolean) Bd.returns (by simp) (hb hby d8_83) k
    · refine XS.icmpYes X0.here hx rfl (pc0 := 63) (pc' := 70) rfl (hb hby d8_63) rfl (feq hb8).2 (by decide) (by decide) ?_
      rw [bz_one (P := (¬ ((Int32.ofNat (es.getD 2 0)) = (Int32.ofNat (es.getD ek 0))))) (iff_true_intro hb8)] at k
      show Steps p.tables e below (s₁.setTop (mkF m 70 #[.val (.ref ix), .val (.int (Int32.ofNat ek)), .val (.int (Int32.ofNat mk)), .val (.int dm), .val (.int (Int32.ofNat (es.getD ek 0))), .unset] [])) _
      refine XS.iconst X0.here hx rfl (hb hby d8_70) ?_
      refine XS.istore X0.here hx rfl (hb hby d8_71) rfl (l' := #[.val (.ref ix), .val (.int (Int32.ofNat ek)), .val (.int (Int32.ofNat mk)), .val (.int dm), .val (.int (Int32.ofNat (es.getD ek 0))), .val (.int (0 : Int32))]) rfl ?_
      refine XS.iload X0.here hx rfl (hb hby d8_73) rfl ?_
      refine XS.ifNo X0.here hx rfl (hb hby d8_75) rfl ((if0 _ _).trans (teq (show (0 : Int32) = (0 : Int32) from (by decide))).2) ?_
      refine XS.iconst X0.here hx rfl (hb hby d8_78) ?_
      refine XS.goto X0.here hx rfl (pc0 := 79) (pc' := 83) rfl (hb hby d8_79) (by decide) (by decide) ?_
      exact retN X0 hx (t := .boolean) Bd.returns (by simp) (hb hby d8_83) k
  have tl10 : ∀ fs, (∀ (f : JFrame) (acts : List Action), f.method = m → f.locked = none → f.entered = [] → (doReturn e (s₁.setTop f) acts (some (.int (bz ((¬ ((2 : Int32) < (Int32.ofNat ek))) ∨ (¬ ((Int32.ofNat (es.getD 2 0)) = (Int32.ofNat (es.getD ek 0))))))))).1 = s₁.setFrames fs) → Steps p.tables e below (s₁.setTop (mkF m 55 #[.val (.ref ix), .val (.int (Int32.ofNat ek)), .val (.int (Int32.ofNat mk)), .val (.int dm), .val (.int (Int32.ofNat (es.getD ek 0))), .unset] [(.int (2 : Int32)), (.int (Int32.ofNat ek))])) (s₁.setFrames fs) := fun fs k => by
    by_cases hb7 : (2 : Int32) < (Int32.ofNat ek)
    · refine XS.icmpNo X0.here hx rfl (hb hby d8_55) rfl (tlt hb7).2.2.2 ?_
      rw [bz_congr (P := ((¬ ((2 : Int32) < (Int32.ofNat ek))) ∨ (¬ ((Int32.ofNat (es.getD 2 0)) = (Int32.ofNat (es.getD ek 0)))))) (Q := (¬ ((Int32.ofNat (es.getD 2 0)) = (Int32.ofNat (es.getD ek 0))))) (or_iff_right (not_not_intro hb7))] at k
      show Steps p.tables e below (s₁.setTop (mkF m 58 #[.val (.ref ix), .val (.int (Int32.ofNat ek)), .val (.int (Int32.ofNat mk)), .val (.int dm), .val (.int (Int32.ofNat (es.getD ek 0))), .unset] [])) _
      refine XS.aloadN X0.here hx rfl (hb hby d8_58) rfl rfl ?_
      refine XS.iconst X0.here hx rfl (hb hby d8_59) ?_
      refine gIald X0 hx hZ e0 R0 0 rfl (j := (Int32.ofNat 2)) (v := (.int (Int32.ofNat (es.getD 2 0)))) (n_nn hbd60) (nl_at hin60 hbd60) (g := (mkF m 60 #[.val (.ref ix), .val (.int (Int32.ofNat ek)), .val (.int (Int32.ofNat mk)), .val (.int dm), .val (.int (Int32.ofNat (es.getD ek 0))), .unset] [(.int (2 : Int32)), (.ref ix)])) rfl rfl (hb hby d8_60) _ ?_
      refine XS.iload X0.here hx rfl (hb hby d8_61) rfl ?_
      exact tl9 fs k
    · refine XS.icmpYes X0.here hx rfl (pc0 := 55) (pc' := 70) rfl (hb hby d8_55) rfl (flt hb7).2.2.2 (by decide) (by decide) ?_
      rw [bz_one (P := ((¬ ((2 : Int32) < (Int32.ofNat ek))) ∨ (¬ ((Int32.ofNat (es.getD 2 0)) = (Int32.ofNat (es.getD ek 0)))))) (iff_true_intro (Or.inl hb7))] at k
      show Steps p.tables e below (s₁.setTop (mkF m 70 #[.val (.ref ix), .val (.int (Int32.ofNat ek)), .val (.int (Int32.ofNat mk)), .val (.int dm), .val (.int (Int32.ofNat (es.getD ek 0))), .unset] [])) _
      refine XS.iconst X0.here hx rfl (hb hby d8_70) ?_
      refine XS.istore X0.here hx rfl (hb hby d8_71) rfl (l' := #[.val (.ref ix), .val (.int (Int32.ofNat ek)), .val (.int (Int32.ofNat mk)), .val (.int dm), .val (.int (Int32.ofNat (es.getD ek 0))), .val (.int (0 : Int32))]) rfl ?_
      refine XS.iload X0.here hx rfl (hb hby d8_73) rfl ?_
      refine XS.ifNo X0.here hx rfl (hb hby d8_75) rfl ((if0 _ _).trans (teq (show (0 : Int32) = (0 : Int32) from (by decide))).2) ?_
      refine XS.iconst X0.here hx rfl (hb hby d8_78) ?_
      refine XS.goto X0.here hx rfl (pc0 := 79) (pc' := 83) rfl (hb hby d8_79) (by decide) (by decide) ?_
      exact retN X0 hx (t := .boolean) Bd.returns (by simp) (hb hby d8_83) k
  have tl11 : ∀ fs, (∀ (f : JFrame) (acts : List Action), f.method = m → f.locked = none → f.entered = [] → (doReturn e (s₁.setTop f) acts (some (.int (bz ((¬ ((Int32.ofNat (es.getD 1 0)) = (Int32.ofNat (es.getD ek 0)))) ∧ ((¬ ((2 : Int32) < (Int32.ofNat ek))) ∨ (¬ ((Int32.ofNat (es.getD 2 0)) = (Int32.ofNat (es.getD ek 0)))))))))).1 = s₁.setFrames fs) → Steps p.tables e below (s₁.setTop (mkF m 50 #[.val (.ref ix), .val (.int (Int32.ofNat ek)), .val (.int (Int32.ofNat mk)), .val (.int dm), .val (.int (Int32.ofNat (es.getD ek 0))), .unset] [(.int (Int32.ofNat (es.getD ek 0))), (.int (Int32.ofNat (es.getD 1 0)))])) (s₁.setFrames fs) := fun fs k => by
    by_cases hb6 : (Int32.ofNat (es.getD 1 0)) = (Int32.ofNat (es.getD ek 0))
    · refine XS.icmpYes X0.here hx rfl (pc0 := 50) (pc' := 66) rfl (hb hby d8_50) rfl (teq hb6).1 (by decide) (by decide) ?_
      rw [bz_zero (P := ((¬ ((Int32.ofNat (es.getD 1 0)) = (Int32.ofNat (es.getD ek 0)))) ∧ ((¬ ((2 : Int32) < (Int32.ofNat ek))) ∨ (¬ ((Int32.ofNat (es.getD 2 0)) = (Int32.ofNat (es.getD ek 0))))))) (iff_false_intro (fun q => q.1 hb6))] at k
      show Steps p.tables e below (s₁.setTop (mkF m 66 #[.val (.ref ix), .val (.int (Int32.ofNat ek)), .val (.int (Int32.ofNat mk)), .val (.int dm), .val (.int (Int32.ofNat (es.getD ek 0))), .unset] [])) _
      refine XS.iconst X0.here hx rfl (hb hby d8_66) ?_
      refine XS.goto X0.here hx rfl (pc0 := 67) (pc' := 71) rfl (hb hby d8_67) (by decide) (by decide) ?_
      refine XS.istore X0.here hx rfl (hb hby d8_71) rfl (l' := #[.val (.ref ix), .val (.int (Int32.ofNat ek)), .val (.int (Int32.ofNat mk)), .val (.int dm), .val (.int (Int32.ofNat (es.getD ek 0))), .val (.int (1 : Int32))]) rfl ?_
      refine XS.iload X0.here hx rfl (hb hby d8_73) rfl ?_
      refine XS.ifYes X0.here hx rfl (pc0 := 75) (pc' := 82) rfl (hb hby d8_75) rfl ((if0 _ _).trans (feq (show ¬ ((1 : Int32) = (0 : Int32)) from (by decide))).2) (by decide) (by decide) ?_
      refine XS.iconst X0.here hx rfl (hb hby d8_82) ?_
      exact retN X0 hx (t := .boolean) Bd.returns (by simp) (hb hby d8_83) k
    · refine XS.icmpNo X0.here hx rfl (hb hby d8_50) rfl (feq hb6).1 ?_
      rw [bz_congr (P := ((¬ ((Int32.ofNat (es.getD 1 0)) = (Int32.ofNat (es.getD ek 0)))) ∧ ((¬ ((2 : Int32) < (Int32.ofNat ek))) ∨ (¬ ((Int32.ofNat (es.getD 2 0)) = (Int32.ofNat (es.getD ek 0))))))) (Q := ((¬ ((2 : Int32) < (Int32.ofNat ek))) ∨ (¬ ((Int32.ofNat (es.getD 2 0)) = (Int32.ofNat (es.getD ek 0)))))) (and_iff_right hb6)] at k
      show Steps p.tables e below (s₁.setTop (mkF m 53 #[.val (.ref ix), .val (.int (Int32.ofNat ek)), .val (.int (Int32.ofNat mk)), .val (.int dm), .val (.int (Int32.ofNat (es.getD ek 0))), .unset] [])) _
      refine XS.iloadN X0.here hx rfl (hb hby d8_53) rfl ?_
      refine XS.iconst X0.here hx rfl (hb hby d8_54) ?_
      exact tl10 fs k
  have tl12 : ∀ fs, (∀ (f : JFrame) (acts : List Action), f.method = m → f.locked = none → f.entered = [] → (doReturn e (s₁.setTop f) acts (some (.int (bz (((¬ ((1 : Int32) < (Int32.ofNat ek))) ∨ (¬ ((Int32.ofNat (es.getD 1 0)) = (Int32.ofNat (es.getD ek 0))))) ∧ ((¬ ((2 : Int32) < (Int32.ofNat ek))) ∨ (¬ ((Int32.ofNat (es.getD 2 0)) = (Int32.ofNat (es.getD ek 0)))))))))).1 = s₁.setFrames fs) → Steps p.tables e below (s₁.setTop (mkF m 42 #[.val (.ref ix), .val (.int (Int32.ofNat ek)), .val (.int (Int32.ofNat mk)), .val (.int dm), .val (.int (Int32.ofNat (es.getD ek 0))), .unset] [(.int (1 : Int32)), (.int (Int32.ofNat ek))])) (s₁.setFrames fs) := fun fs k => by
    by_cases hb5 : (1 : Int32) < (Int32.ofNat ek)
    · refine XS.icmpNo X0.here hx rfl (hb hby d8_42) rfl (tlt hb5).2.2.2 ?_
      rw [bz_congr (P := (((¬ ((1 : Int32) < (Int32.ofNat ek))) ∨ (¬ ((Int32.ofNat (es.getD 1 0)) = (Int32.ofNat (es.getD ek 0))))) ∧ ((¬ ((2 : Int32) < (Int32.ofNat ek))) ∨ (¬ ((Int32.ofNat (es.getD 2 0)) = (Int32.ofNat (es.getD ek 0))))))) (Q := ((¬ ((Int32.ofNat (es.getD 1 0)) = (Int32.ofNat (es.getD ek 0)))) ∧ ((¬ ((2 : Int32) < (Int32.ofNat ek))) ∨ (¬ ((Int32.ofNat (es.getD 2 0)) = (Int32.ofNat (es.getD ek 0))))))) (and_congr (or_iff_right (not_not_intro hb5)) Iff.rfl)] at k
      show Steps p.tables e below (s₁.setTop (mkF m 45 #[.val (.ref ix), .val (.int (Int32.ofNat ek)), .val (.int (Int32.ofNat mk)), .val (.int dm), .val (.int (Int32.ofNat (es.getD ek 0))), .unset] [])) _
      refine XS.aloadN X0.here hx rfl (hb hby d8_45) rfl rfl ?_
      refine XS.iconst X0.here hx rfl (hb hby d8_46) ?_
      refine gIald X0 hx hZ e0 R0 0 rfl (j := (Int32.ofNat 1)) (v := (.int (Int32.ofNat (es.getD 1 0)))) (n_nn hbd47) (nl_at hin47 hbd47) (g := (mkF m 47 #[.val (.ref ix), .val (.int (Int32.ofNat ek)), .val (.int (Int32.ofNat mk)), .val (.int dm), .val (.int (Int32.ofNat (es.getD ek 0))), .unset] [(.int (1 : Int32)), (.ref ix)])) rfl rfl (hb hby d8_47) _ ?_
      refine XS.iload X0.here hx rfl (hb hby d8_48) rfl ?_
      exact tl11 fs k
    · refine XS.icmpYes X0.here hx rfl (pc0 := 42) (pc' := 53) rfl (hb hby d8_42) rfl (flt hb5).2.2.2 (by decide) (by decide) ?_
      rw [bz_congr (P := (((¬ ((1 : Int32) < (Int32.ofNat ek))) ∨ (¬ ((Int32.ofNat (es.getD 1 0)) = (Int32.ofNat (es.getD ek 0))))) ∧ ((¬ ((2 : Int32) < (Int32.ofNat ek))) ∨ (¬ ((Int32.ofNat (es.getD 2 0)) = (Int32.ofNat (es.getD ek 0))))))) (Q := ((¬ ((2 : Int32) < (Int32.ofNat ek))) ∨ (¬ ((Int32.ofNat (es.getD 2 0)) = (Int32.ofNat (es.getD ek 0)))))) (and_iff_right (Or.inl hb5))] at k
      show Steps p.tables e below (s₁.setTop (mkF m 53 #[.val (.ref ix), .val (.int (Int32.ofNat ek)), .val (.int (Int32.ofNat mk)), .val (.int dm), .val (.int (Int32.ofNat (es.getD ek 0))), .unset] [])) _
      refine XS.iloadN X0.here hx rfl (hb hby d8_53) rfl ?_
      refine XS.iconst X0.here hx rfl (hb hby d8_54) ?_
      exact tl10 fs k
  have tl13 : ∀ fs, (∀ (f : JFrame) (acts : List Action), f.method = m → f.locked = none → f.entered = [] → (doReturn e (s₁.setTop f) acts (some (.int (bz ((¬ ((Int32.ofNat (es.getD 0 0)) = (Int32.ofNat (es.getD ek 0)))) ∧ (((¬ ((1 : Int32) < (Int32.ofNat ek))) ∨ (¬ ((Int32.ofNat (es.getD 1 0)) = (Int32.ofNat (es.getD ek 0))))) ∧ ((¬ ((2 : Int32) < (Int32.ofNat ek))) ∨ (¬ ((Int32.ofNat (es.getD 2 0)) = (Int32.ofNat (es.getD ek 0))))))))))).1 = s₁.setFrames fs) → Steps p.tables e below (s₁.setTop (mkF m 37 #[.val (.ref ix), .val (.int (Int32.ofNat ek)), .val (.int (Int32.ofNat mk)), .val (.int dm), .val (.int (Int32.ofNat (es.getD ek 0))), .unset] [(.int (Int32.ofNat (es.getD ek 0))), (.int (Int32.ofNat (es.getD 0 0)))])) (s₁.setFrames fs) := fun fs k => by
    by_cases hb4 : (Int32.ofNat (es.getD 0 0)) = (Int32.ofNat (es.getD ek 0))
    · refine XS.icmpYes X0.here hx rfl (pc0 := 37) (pc' := 66) rfl (hb hby d8_37) rfl (teq hb4).1 (by decide) (by decide) ?_
      rw [bz_zero (P := ((¬ ((Int32.ofNat (es.getD 0 0)) = (Int32.ofNat (es.getD ek 0)))) ∧ (((¬ ((1 : Int32) < (Int32.ofNat ek))) ∨ (¬ ((Int32.ofNat (es.getD 1 0)) = (Int32.ofNat (es.getD ek 0))))) ∧ ((¬ ((2 : Int32) < (Int32.ofNat ek))) ∨ (¬ ((Int32.ofNat (es.getD 2 0)) = (Int32.ofNat (es.getD ek 0)))))))) (iff_false_intro (fun q => q.1 hb4))] at k
      show Steps p.tables e below (s₁.setTop (mkF m 66 #[.val (.ref ix), .val (.int (Int32.ofNat ek)), .val (.int (Int32.ofNat mk)), .val (.int dm), .val (.int (Int32.ofNat (es.getD ek 0))), .unset] [])) _
      refine XS.iconst X0.here hx rfl (hb hby d8_66) ?_
      refine XS.goto X0.here hx rfl (pc0 := 67) (pc' := 71) rfl (hb hby d8_67) (by decide) (by decide) ?_
      refine XS.istore X0.here hx rfl (hb hby d8_71) rfl (l' := #[.val (.ref ix), .val (.int (Int32.ofNat ek)), .val (.int (Int32.ofNat mk)), .val (.int dm), .val (.int (Int32.ofNat (es.getD ek 0))), .val (.int (1 : Int32))]) rfl ?_
      refine XS.iload X0.here hx rfl (hb hby d8_73) rfl ?_
      refine XS.ifYes X0.here hx rfl (pc0 := 75) (pc' := 82) rfl (hb hby d8_75) rfl ((if0 _ _).trans (feq (show ¬ ((1 : Int32) = (0 : Int32)) from (by decide))).2) (by decide) (by decide) ?_
      refine XS.iconst X0.here hx rfl (hb hby d8_82) ?_
      exact retN X0 hx (t := .boolean) Bd.returns (by simp) (hb hby d8_83) k
    · refine XS.icmpNo X0.here hx rfl (hb hby d8_37) rfl (feq hb4).1 ?_
      rw [bz_congr (P := ((¬ ((Int32.ofNat (es.getD 0 0)) = (Int32.ofNat (es.getD ek 0)))) ∧ (((¬ ((1 : Int32) < (Int32.ofNat ek))) ∨ (¬ ((Int32.ofNat (es.getD 1 0)) = (Int32.ofNat (es.getD ek 0))))) ∧ ((¬ ((2 : Int32) < (Int32.ofNat ek))) ∨ (¬ ((Int32.ofNat (es.getD 2 0)) = (Int32.ofNat (es.getD ek 0)))))))) (Q := (((¬ ((1 : Int32) < (Int32.ofNat ek))) ∨ (¬ ((Int32.ofNat (es.getD 1 0)) = (Int32.ofNat (es.getD ek 0))))) ∧ ((¬ ((2 : Int32) < (Int32.ofNat ek))) ∨ (¬ ((Int32.ofNat (es.getD 2 0)) = (Int32.ofNat (es.getD ek 0))))))) (and_iff_right hb4)] at k
      show Steps p.tables e below (s₁.setTop (mkF m 40 #[.val (.ref ix), .val (.int (Int32.ofNat ek)), .val (.int (Int32.ofNat mk)), .val (.int dm), .val (.int (Int32.ofNat (es.getD ek 0))), .unset] [])) _
      refine XS.iloadN X0.here hx rfl (hb hby d8_40) rfl ?_
      refine XS.iconst X0.here hx rfl (hb hby d8_41) ?_
      exact tl12 fs k
  have tl14 : ∀ fs, (∀ (f : JFrame) (acts : List Action), f.method = m → f.locked = none → f.entered = [] → (doReturn e (s₁.setTop f) acts (some (.int (bz (((¬ ((0 : Int32) < (Int32.ofNat ek))) ∨ (¬ ((Int32.ofNat (es.getD 0 0)) = (Int32.ofNat (es.getD ek 0))))) ∧ (((¬ ((1 : Int32) < (Int32.ofNat ek))) ∨ (¬ ((Int32.ofNat (es.getD 1 0)) = (Int32.ofNat (es.getD ek 0))))) ∧ ((¬ ((2 : Int32) < (Int32.ofNat ek))) ∨ (¬ ((Int32.ofNat (es.getD 2 0)) = (Int32.ofNat (es.getD ek 0))))))))))).1 = s₁.setFrames fs) → Steps p.tables e below (s₁.setTop (mkF m 29 #[.val (.ref ix), .val (.int (Int32.ofNat ek)), .val (.int (Int32.ofNat mk)), .val (.int dm), .val (.int (Int32.ofNat (es.getD ek 0))), .unset] [(.int (Int32.ofNat ek))])) (s₁.setFrames fs) := fun fs k => by
    by_cases hb3 : (0 : Int32) < (Int32.ofNat ek)
    · refine XS.ifNo X0.here hx rfl (hb hby d8_29) rfl ((if0 _ _).trans (tlt hb3).2.2.2) ?_
      rw [bz_congr (P := (((¬ ((0 : Int32) < (Int32.ofNat ek))) ∨ (¬ ((Int32.ofNat (es.getD 0 0)) = (Int32.ofNat (es.getD ek 0))))) ∧ (((¬ ((1 : Int32) < (Int32.ofNat ek))) ∨ (¬ ((Int32.ofNat (es.getD 1 0)) = (Int32.ofNat (es.getD ek 0))))) ∧ ((¬ ((2 : Int32) < (Int32.ofNat ek))) ∨ (¬ ((Int32.ofNat (es.getD 2 0)) = (Int32.ofNat (es.getD ek 0)))))))) (Q := ((¬ ((Int32.ofNat (es.getD 0 0)) = (Int32.ofNat (es.getD ek 0)))) ∧ (((¬ ((1 : Int32) < (Int32.ofNat ek))) ∨ (¬ ((Int32.ofNat (es.getD 1 0)) = (Int32.ofNat (es.getD ek 0))))) ∧ ((¬ ((2 : Int32) < (Int32.ofNat ek))) ∨ (¬ ((Int32.ofNat (es.getD 2 0)) = (Int32.ofNat (es.getD ek 0)))))))) (and_congr (or_iff_right (not_not_intro hb3)) Iff.rfl)] at k
      show Steps p.tables e below (s₁.setTop (mkF m 32 #[.val (.ref ix), .val (.int (Int32.ofNat ek)), .val (.int (Int32.ofNat mk)), .val (.int dm), .val (.int (Int32.ofNat (es.getD ek 0))), .unset] [])) _
      refine XS.aloadN X0.here hx rfl (hb hby d8_32) rfl rfl ?_
      refine XS.iconst X0.here hx rfl (hb hby d8_33) ?_
      refine gIald X0 hx hZ e0 R0 0 rfl (j := (Int32.ofNat 0)) (v := (.int (Int32.ofNat (es.getD 0 0)))) (n_nn hbd34) (nl_at hin34 hbd34) (g := (mkF m 34 #[.val (.ref ix), .val (.int (Int32.ofNat ek)), .val (.int (Int32.ofNat mk)), .val (.int dm), .val (.int (Int32.ofNat (es.getD ek 0))), .unset] [(.int (0 : Int32)), (.ref ix)])) rfl rfl (hb hby d8_34) _ ?_
      refine XS.iload X0.here hx rfl (hb hby d8_35) rfl ?_
      exact tl13 fs k
    · refine XS.ifYes X0.here hx rfl (pc0 := 29) (pc' := 40) rfl (hb hby d8_29) rfl ((if0 _ _).trans (flt hb3).2.2.2) (by decide) (by decide) ?_
      rw [bz_congr (P := (((¬ ((0 : Int32) < (Int32.ofNat ek))) ∨ (¬ ((Int32.ofNat (es.getD 0 0)) = (Int32.ofNat (es.getD ek 0))))) ∧ (((¬ ((1 : Int32) < (Int32.ofNat ek))) ∨ (¬ ((Int32.ofNat (es.getD 1 0)) = (Int32.ofNat (es.getD ek 0))))) ∧ ((¬ ((2 : Int32) < (Int32.ofNat ek))) ∨ (¬ ((Int32.ofNat (es.getD 2 0)) = (Int32.ofNat (es.getD ek 0)))))))) (Q := (((¬ ((1 : Int32) < (Int32.ofNat ek))) ∨ (¬ ((Int32.ofNat (es.getD 1 0)) = (Int32.ofNat (es.getD ek 0))))) ∧ ((¬ ((2 : Int32) < (Int32.ofNat ek))) ∨ (¬ ((Int32.ofNat (es.getD 2 0)) = (Int32.ofNat (es.getD ek 0))))))) (and_iff_right (Or.inl hb3))] at k
      show Steps p.tables e below (s₁.setTop (mkF m 40 #[.val (.ref ix), .val (.int (Int32.ofNat ek)), .val (.int (Int32.ofNat mk)), .val (.int dm), .val (.int (Int32.ofNat (es.getD ek 0))), .unset] [])) _
      refine XS.iloadN X0.here hx rfl (hb hby d8_40) rfl ?_
      refine XS.iconst X0.here hx rfl (hb hby d8_41) ?_
      exact tl12 fs k
  have tl17 : ∀ fs, (∀ (f : JFrame) (acts : List Action), f.method = m → f.locked = none → f.entered = [] → (doReturn e (s₁.setTop f) acts (some (.int (bz ((Int32.ofNat ek) = (Int32.ofNat mk)))))).1 = s₁.setFrames fs) → Steps p.tables e below (s₁.setTop (mkF m 19 #[.val (.ref ix), .val (.int (Int32.ofNat ek)), .val (.int (Int32.ofNat mk)), .val (.int dm), .val (.int (Int32.ofNat (es.getD ek 0))), .unset] [(.int (Int32.ofNat mk)), (.int (Int32.ofNat ek))])) (s₁.setFrames fs) := fun fs k => by
    by_cases hb16 : (Int32.ofNat ek) = (Int32.ofNat mk)
    · refine XS.icmpNo X0.here hx rfl (hb hby d8_19) rfl (teq hb16).2 ?_
      rw [bz_one (P := ((Int32.ofNat ek) = (Int32.ofNat mk))) (iff_true_intro hb16)] at k
      show Steps p.tables e below (s₁.setTop (mkF m 22 #[.val (.ref ix), .val (.int (Int32.ofNat ek)), .val (.int (Int32.ofNat mk)), .val (.int dm), .val (.int (Int32.ofNat (es.getD ek 0))), .unset] [])) _
      refine XS.iconst X0.here hx rfl (hb hby d8_22) ?_
      refine XS.goto X0.here hx rfl (pc0 := 23) (pc' := 27) rfl (hb hby d8_23) (by decide) (by decide) ?_
      exact retN X0 hx (t := .boolean) Bd.returns (by simp) (hb hby d8_27) k
    · refine XS.icmpYes X0.here hx rfl (pc0 := 19) (pc' := 26) rfl (hb hby d8_19) rfl (feq hb16).2 (by decide) (by decide) ?_
      rw [bz_zero (P := ((Int32.ofNat ek) = (Int32.ofNat mk))) (iff_false_intro hb16)] at k
      show Steps p.tables e below (s₁.setTop (mkF m 26 #[.val (.ref ix), .val (.int (Int32.ofNat ek)), .val (.int (Int32.ofNat mk)), .val (.int dm), .val (.int (Int32.ofNat (es.getD ek 0))), .unset] [])) _
      refine XS.iconst X0.here hx rfl (hb hby d8_26) ?_
      exact retN X0 hx (t := .boolean) Bd.returns (by simp) (hb hby d8_27) k
  have tl18 : ∀ fs, (∀ (f : JFrame) (acts : List Action), f.method = m → f.locked = none → f.entered = [] → (doReturn e (s₁.setTop f) acts (some (.int (bz (if (Int32.ofNat (es.getD mk 0)) = (Int32.ofNat (es.getD ek 0)) then ((Int32.ofNat ek) = (Int32.ofNat mk)) else (((¬ ((0 : Int32) < (Int32.ofNat ek))) ∨ (¬ ((Int32.ofNat (es.getD 0 0)) = (Int32.ofNat (es.getD ek 0))))) ∧ (((¬ ((1 : Int32) < (Int32.ofNat ek))) ∨ (¬ ((Int32.ofNat (es.getD 1 0)) = (Int32.ofNat (es.getD ek 0))))) ∧ ((¬ ((2 : Int32) < (Int32.ofNat ek))) ∨ (¬ ((Int32.ofNat (es.getD 2 0)) = (Int32.ofNat (es.getD ek 0)))))))))))).1 = s₁.setFrames fs) → Steps p.tables e below (s₁.setTop (mkF m 14 #[.val (.ref ix), .val (.int (Int32.ofNat ek)), .val (.int (Int32.ofNat mk)), .val (.int dm), .val (.int (Int32.ofNat (es.getD ek 0))), .unset] [(.int (Int32.ofNat (es.getD ek 0))), (.int (Int32.ofNat (es.getD mk 0)))])) (s₁.setFrames fs) := fun fs k => by
    by_cases hb15 : (Int32.ofNat (es.getD mk 0)) = (Int32.ofNat (es.getD ek 0))
    · refine XS.icmpNo X0.here hx rfl (hb hby d8_14) rfl (teq hb15).2 ?_
      rw [bz_congr (P := (if (Int32.ofNat (es.getD mk 0)) = (Int32.ofNat (es.getD ek 0)) then ((Int32.ofNat ek) = (Int32.ofNat mk)) else (((¬ ((0 : Int32) < (Int32.ofNat ek))) ∨ (¬ ((Int32.ofNat (es.getD 0 0)) = (Int32.ofNat (es.getD ek 0))))) ∧ (((¬ ((1 : Int32) < (Int32.ofNat ek))) ∨ (¬ ((Int32.ofNat (es.getD 1 0)) = (Int32.ofNat (es.getD ek 0))))) ∧ ((¬ ((2 : Int32) < (Int32.ofNat ek))) ∨ (¬ ((Int32.ofNat (es.getD 2 0)) = (Int32.ofNat (es.getD ek 0))))))))) (Q := ((Int32.ofNat ek) = (Int32.ofNat mk))) (iff_of_eq (if_pos hb15))] at k
      show Steps p.tables e below (s₁.setTop (mkF m 17 #[.val (.ref ix), .val (.int (Int32.ofNat ek)), .val (.int (Int32.ofNat mk)), .val (.int dm), .val (.int (Int32.ofNat (es.getD ek 0))), .unset] [])) _
      refine XS.iloadN X0.here hx rfl (hb hby d8_17) rfl ?_
      refine XS.iloadN X0.here hx rfl (hb hby d8_18) rfl ?_
      exact tl17 fs k
    · refine XS.icmpYes X0.here hx rfl (pc0 := 14) (pc' := 28) rfl (hb hby d8_14) rfl (feq hb15).2 (by decide) (by decide) ?_
      rw [bz_congr (P := (if (Int32.ofNat (es.getD mk 0)) = (Int32.ofNat (es.getD ek 0)) then ((Int32.ofNat ek) = (Int32.ofNat mk)) else (((¬ ((0 : Int32) < (Int32.ofNat ek))) ∨ (¬ ((Int32.ofNat (es.getD 0 0)) = (Int32.ofNat (es.getD ek 0))))) ∧ (((¬ ((1 : Int32) < (Int32.ofNat ek))) ∨ (¬ ((Int32.ofNat (es.getD 1 0)) = (Int32.ofNat (es.getD ek 0))))) ∧ ((¬ ((2 : Int32) < (Int32.ofNat ek))) ∨ (¬ ((Int32.ofNat (es.getD 2 0)) = (Int32.ofNat (es.getD ek 0))))))))) (Q := (((¬ ((0 : Int32) < (Int32.ofNat ek))) ∨ (¬ ((Int32.ofNat (es.getD 0 0)) = (Int32.ofNat (es.getD ek 0))))) ∧ (((¬ ((1 : Int32) < (Int32.ofNat ek))) ∨ (¬ ((Int32.ofNat (es.getD 1 0)) = (Int32.ofNat (es.getD ek 0))))) ∧ ((¬ ((2 : Int32) < (Int32.ofNat ek))) ∨ (¬ ((Int32.ofNat (es.getD 2 0)) = (Int32.ofNat (es.getD ek 0)))))))) (iff_of_eq (if_neg hb15))] at k
      show Steps p.tables e below (s₁.setTop (mkF m 28 #[.val (.ref ix), .val (.int (Int32.ofNat ek)), .val (.int (Int32.ofNat mk)), .val (.int dm), .val (.int (Int32.ofNat (es.getD ek 0))), .unset] [])) _
      refine XS.iloadN X0.here hx rfl (hb hby d8_28) rfl ?_
      exact tl14 fs k
  have tl19 : ∀ fs, (∀ (f : JFrame) (acts : List Action), f.method = m → f.locked = none → f.entered = [] → (doReturn e (s₁.setTop f) acts (some (.int (bz (if dm = (0 : Int32) then (((¬ ((0 : Int32) < (Int32.ofNat ek))) ∨ (¬ ((Int32.ofNat (es.getD 0 0)) = (Int32.ofNat (es.getD ek 0))))) ∧ (((¬ ((1 : Int32) < (Int32.ofNat ek))) ∨ (¬ ((Int32.ofNat (es.getD 1 0)) = (Int32.ofNat (es.getD ek 0))))) ∧ ((¬ ((2 : Int32) < (Int32.ofNat ek))) ∨ (¬ ((Int32.ofNat (es.getD 2 0)) = (Int32.ofNat (es.getD ek 0))))))) else (if (Int32.ofNat (es.getD mk 0)) = (Int32.ofNat (es.getD ek 0)) then ((Int32.ofNat ek) = (Int32.ofNat mk)) else (((¬ ((0 : Int32) < (Int32.ofNat ek))) ∨ (¬ ((Int32.ofNat (es.getD 0 0)) = (Int32.ofNat (es.getD ek 0))))) ∧ (((¬ ((1 : Int32) < (Int32.ofNat ek))) ∨ (¬ ((Int32.ofNat (es.getD 1 0)) = (Int32.ofNat (es.getD ek 0))))) ∧ ((¬ ((2 : Int32) < (Int32.ofNat ek))) ∨ (¬ ((Int32.ofNat (es.getD 2 0)) = (Int32.ofNat (es.getD ek 0))))))))))))).1 = s₁.setFrames fs) → Steps p.tables e below (s₁.setTop (mkF m 6 #[.val (.ref ix), .val (.int (Int32.ofNat ek)), .val (.int (Int32.ofNat mk)), .val (.int dm), .val (.int (Int32.ofNat (es.getD ek 0))), .unset] [(.int dm)])) (s₁.setFrames fs) := fun fs k => by
    by_cases hb2 : dm = (0 : Int32)
    · refine XS.ifYes X0.here hx rfl (pc0 := 6) (pc' := 28) rfl (hb hby d8_6) rfl ((if0 _ _).trans (teq hb2).1) (by decide) (by decide) ?_
      rw [bz_congr (P := (if dm = (0 : Int32) then (((¬ ((0 : Int32) < (Int32.ofNat ek))) ∨ (¬ ((Int32.ofNat (es.getD 0 0)) = (Int32.ofNat (es.getD ek 0))))) ∧ (((¬ ((1 : Int32) < (Int32.ofNat ek))) ∨ (¬ ((Int32.ofNat (es.getD 1 0)) = (Int32.ofNat (es.getD ek 0))))) ∧ ((¬ ((2 : Int32) < (Int32.ofNat ek))) ∨ (¬ ((Int32.ofNat (es.getD 2 0)) = (Int32.ofNat (es.getD ek 0))))))) else (if (Int32.ofNat (es.getD mk 0)) = (Int32.ofNat (es.getD ek 0)) then ((Int32.ofNat ek) = (Int32.ofNat mk)) else (((¬ ((0 : Int32) < (Int32.ofNat ek))) ∨ (¬ ((Int32.ofNat (es.getD 0 0)) = (Int32.ofNat (es.getD ek 0))))) ∧ (((¬ ((1 : Int32) < (Int32.ofNat ek))) ∨ (¬ ((Int32.ofNat (es.getD 1 0)) = (Int32.ofNat (es.getD ek 0))))) ∧ ((¬ ((2 : Int32) < (Int32.ofNat ek))) ∨ (¬ ((Int32.ofNat (es.getD 2 0)) = (Int32.ofNat (es.getD ek 0)))))))))) (Q := (((¬ ((0 : Int32) < (Int32.ofNat ek))) ∨ (¬ ((Int32.ofNat (es.getD 0 0)) = (Int32.ofNat (es.getD ek 0))))) ∧ (((¬ ((1 : Int32) < (Int32.ofNat ek))) ∨ (¬ ((Int32.ofNat (es.getD 1 0)) = (Int32.ofNat (es.getD ek 0))))) ∧ ((¬ ((2 : Int32) < (Int32.ofNat ek))) ∨ (¬ ((Int32.ofNat (es.getD 2 0)) = (Int32.ofNat (es.getD ek 0)))))))) (iff_of_eq (if_pos hb2))] at k
      show Steps p.tables e below (s₁.setTop (mkF m 28 #[.val (.ref ix), .val (.int (Int32.ofNat ek)), .val (.int (Int32.ofNat mk)), .val (.int dm), .val (.int (Int32.ofNat (es.getD ek 0))), .unset] [])) _
      refine XS.iloadN X0.here hx rfl (hb hby d8_28) rfl ?_
      exact tl14 fs k
    · refine XS.ifNo X0.here hx rfl (hb hby d8_6) rfl ((if0 _ _).trans (feq hb2).1) ?_
      rw [bz_congr (P := (if dm = (0 : Int32) then (((¬ ((0 : Int32) < (Int32.ofNat ek))) ∨ (¬ ((Int32.ofNat (es.getD 0 0)) = (Int32.ofNat (es.getD ek 0))))) ∧ (((¬ ((1 : Int32) < (Int32.ofNat ek))) ∨ (¬ ((Int32.ofNat (es.getD 1 0)) = (Int32.ofNat (es.getD ek 0))))) ∧ ((¬ ((2 : Int32) < (Int32.ofNat ek))) ∨ (¬ ((Int32.ofNat (es.getD 2 0)) = (Int32.ofNat (es.getD ek 0))))))) else (if (Int32.ofNat (es.getD mk 0)) = (Int32.ofNat (es.getD ek 0)) then ((Int32.ofNat ek) = (Int32.ofNat mk)) else (((¬ ((0 : Int32) < (Int32.ofNat ek))) ∨ (¬ ((Int32.ofNat (es.getD 0 0)) = (Int32.ofNat (es.getD ek 0))))) ∧ (((¬ ((1 : Int32) < (Int32.ofNat ek))) ∨ (¬ ((Int32.ofNat (es.getD 1 0)) = (Int32.ofNat (es.getD ek 0))))) ∧ ((¬ ((2 : Int32) < (Int32.ofNat ek))) ∨ (¬ ((Int32.ofNat (es.getD 2 0)) = (Int32.ofNat (es.getD ek 0)))))))))) (Q := (if (Int32.ofNat (es.getD mk 0)) = (Int32.ofNat (es.getD ek 0)) then ((Int32.ofNat ek) = (Int32.ofNat mk)) else (((¬ ((0 : Int32) < (Int32.ofNat ek))) ∨ (¬ ((Int32.ofNat (es.getD 0 0)) = (Int32.ofNat (es.getD ek 0))))) ∧ (((¬ ((1 : Int32) < (Int32.ofNat ek))) ∨ (¬ ((Int32.ofNat (es.getD 1 0)) = (Int32.ofNat (es.getD ek 0))))) ∧ ((¬ ((2 : Int32) < (Int32.ofNat ek))) ∨ (¬ ((Int32.ofNat (es.getD 2 0)) = (Int32.ofNat (es.getD ek 0))))))))) (iff_of_eq (if_neg hb2))] at k
      show Steps p.tables e below (s₁.setTop (mkF m 9 #[.val (.ref ix), .val (.int (Int32.ofNat ek)), .val (.int (Int32.ofNat mk)), .val (.int dm), .val (.int (Int32.ofNat (es.getD ek 0))), .unset] [])) _
      refine XS.aloadN X0.here hx rfl (hb hby d8_9) rfl rfl ?_
      refine XS.iloadN X0.here hx rfl (hb hby d8_10) rfl ?_
      refine gIald X0 hx hZ e0 R0 0 rfl (j := (Int32.ofNat mk)) (v := (.int (Int32.ofNat (es.getD mk 0)))) (n_nn hbd11) (nl_at hin11 hbd11) (g := (mkF m 11 #[.val (.ref ix), .val (.int (Int32.ofNat ek)), .val (.int (Int32.ofNat mk)), .val (.int dm), .val (.int (Int32.ofNat (es.getD ek 0))), .unset] [(.int (Int32.ofNat mk)), (.ref ix)])) rfl rfl (hb hby d8_11) _ ?_
      refine XS.iload X0.here hx rfl (hb hby d8_12) rfl ?_
      exact tl18 fs k
  obtain ⟨fs, hr, hrun, hended, hW, hsame⟩ := X0.leave (v := some (.int (bz (if dm = (0 : Int32) then (((¬ ((0 : Int32) < (Int32.ofNat ek))) ∨ (¬ ((Int32.ofNat (es.getD 0 0)) = (Int32.ofNat (es.getD ek 0))))) ∧ (((¬ ((1 : Int32) < (Int32.ofNat ek))) ∨ (¬ ((Int32.ofNat (es.getD 1 0)) = (Int32.ofNat (es.getD ek 0))))) ∧ ((¬ ((2 : Int32) < (Int32.ofNat ek))) ∨ (¬ ((Int32.ofNat (es.getD 2 0)) = (Int32.ofNat (es.getD ek 0))))))) else (if (Int32.ofNat (es.getD mk 0)) = (Int32.ofNat (es.getD ek 0)) then ((Int32.ofNat ek) = (Int32.ofNat mk)) else (((¬ ((0 : Int32) < (Int32.ofNat ek))) ∨ (¬ ((Int32.ofNat (es.getD 0 0)) = (Int32.ofNat (es.getD ek 0))))) ∧ (((¬ ((1 : Int32) < (Int32.ofNat ek))) ∨ (¬ ((Int32.ofNat (es.getD 1 0)) = (Int32.ofNat (es.getD ek 0))))) ∧ ((¬ ((2 : Int32) < (Int32.ofNat ek))) ∨ (¬ ((Int32.ofNat (es.getD 2 0)) = (Int32.ofNat (es.getD ek 0)))))))))))) (fun h => by rw [Bd.returns] at h; cases h)
  refine ⟨_, _, pre1 _ ?_, hrun, hended, _, _, rfl, ?_, ⟨_, rfl⟩, hW, hsame.mono (by decide) (by decide)⟩
  · skip
    exact tl19 fs hr
  · show Q8 Z ix ek mk dm es n0 Rst _ s₁.heap _
    rw [e0]
    exact ⟨(by first | rfl | simp only [F8]), N0, R0⟩
def zeros (es : List Nat) (cn : Nat) : List Nat := List.replicate (max es.length cn) 0
/-- no mark: the four answers -/
def okA (cn y0 y1 y2 y3 : Nat) : Bool := okC [y0, y1, y2, y3] cn && decide ((pS4 [y0, y1, y2, y3] cn).2.1.length = 4) && decide (cn ≤ (pSt [y0, y1, y2, y3] cn).length) && (List.range 4).all (fun i => (List.range 4).all (fun m => decide (F7 i (pS4 [y0, y1, y2, y3] cn).2.1 [y0, y1, y2, y3] (pSt [y0, y1, y2, y3] cn) = F8 i m (0 : Int32) [y0, y1, y2, y3])))
/-- element m marked -/
def okB (cn y0 y1 y2 y3 m : Nat) : Bool := okM [y0, y1, y2, y3] (pSt [y0, y1, y2, y3] cn) (pS4 [y0, y1, y2, y3] cn).1 (pS4 [y0, y1, y2, y3] cn).2.1 (zeros [y0, y1, y2, y3] cn) (zeros [y0, y1, y2, y3] cn) 0 m && decide ((mLo [y0, y1, y2, y3] (pSt [y0, y1, y2, y3] cn) (pS4 [y0, y1, y2, y3] cn).1 (pS4 [y0, y1, y2, y3] cn).2.1 (zeros [y0, y1, y2, y3] cn) m).length = 4) && (List.range 4).all (fun i => decide (F7 i (mLo [y0, y1, y2, y3] (pSt [y0, y1, y2, y3] cn) (pS4 [y0, y1, y2, y3] cn).1 (pS4 [y0, y1, y2, y3] cn).2.1 (zeros [y0, y1, y2, y3] cn) m) [y0, y1, y2, y3] (pSt [y0, y1, y2, y3] cn) = F8 i m (1 : Int32) [y0, y1, y2, y3]))
def gd : List Nat → Nat → Nat
  | [], _ => 0
  | x :: _, 0 => x
  | _ :: xs, i + 1 => gd xs i
def sf : List Nat → Nat → Nat → List Nat
  | [], _, _ => []
  | _ :: xs, 0, v => v :: xs
  | x :: xs, i + 1, v => x :: sf xs i v
def len : List Nat → Nat
  | [] => 0
  | _ :: xs => Nat.succ (len xs)
def rpl : Nat → List Nat
  | 0 => []
  | n + 1 => 0 :: rpl n
def an (a b : Bool) : Bool := Bool.casesOn a false b
def nt (a : Bool) : Bool := Bool.casesOn a true false
def bq (a b : Bool) : Bool := Bool.casesOn a (nt b) b
def alt : Nat → (Nat → Bool) → Bool
  | 0, _ => true
  | n + 1, f => Bool.casesOn (f n) false (alt n f)
def fc (x : Nat) (k : Nat → Bool) : Bool := Bool.casesOn (Nat.beq x 0) (Bool.casesOn (Nat.beq x 1) (Bool.casesOn (Nat.beq x 2) (Bool.casesOn (Nat.beq x 3) (Bool.casesOn (Nat.beq x 4) (k x) (k 4)) (k 3)) (k 2)) (k 1)) (k 0)
def fcL : List Nat → (List Nat → Bool) → Bool
  | [], k => k []
  | x :: xs, k => fc x fun y => fcL xs fun ys => k (y :: ys)
theorem gd_eq : ∀ (xs : List Nat) (i : Nat), gd xs i = xs.getD i 0
  | [], _ => rfl
  | _ :: _, 0 => rfl
  | x :: xs, i + 1 => gd_eq xs i
theorem sf_eq : ∀ (xs : List Nat) (i v : Nat), sf xs i v = xs.set i v
  | [], _, _ => rfl
  | _ :: _, 0, _ => rfl
  | x :: xs, i + 1, v => congrArg (x :: ·) (sf_eq xs i v)
theorem len_eq : ∀ (xs : List Nat), len xs = xs.length
  | [] => rfl
  | x :: xs => congrArg Nat.succ (len_eq xs)
theorem rpl_eq : ∀ (n : Nat), rpl n = List.replicate n 0
  | 0 => rfl
  | n + 1 => congrArg (0 :: ·) (rpl_eq n)
theorem an_eq (a b : Bool) : an a b = (a && b) := by cases a <;> rfl
theorem nt_eq (a : Bool) : nt a = !a := by cases a <;> rfl
theorem bq_eq {a b : Bool} (h : bq a b = true) : a = b := by cases a <;> cases b <;> first | rfl | cases h
theorem alt_eq {n : Nat} {f : Nat → Bool} (h : alt n f = true) : ∀ i, i < n → f i = true := by
  induction n with
  | zero => intro i hi; omega
  | succ n ih =>
    have h' : (Bool.casesOn (f n) false (alt n f) : Bool) = true := h
    cases q : f n
    · rw [q] at h'; cases h'
    · rw [q] at h'
      intro i hi
      by_cases e : i = n
      · rw [e]; exact q
      · exact ih h' i (by omega)
theorem fc_eq (x : Nat) (k : Nat → Bool) : fc x k = k x := by
  have h : ∀ n y, y = k x → (Bool.casesOn (Nat.beq x n) y (k n) : Bool) = k x := by
    intro n y e
    cases hq : Nat.beq x n
    · exact e
    · rw [← Nat.eq_of_beq_eq_true hq]
  exact h 0 _ (h 1 _ (h 2 _ (h 3 _ (h 4 _ rfl))))
theorem fcL_eq : ∀ (xs : List Nat) (k : List Nat → Bool), fcL xs k = k xs
  | [], k => rfl
  | x :: xs, k => by show fc x (fun y => fcL xs fun ys => k (y :: ys)) = _; rw [fc_eq, fcL_eq xs]
theorem blt_iff {a b : Nat} : Nat.blt a b = true ↔ a < b := ⟨Nat.le_of_ble_eq_true, Nat.ble_eq_true_of_le⟩
theorem beq_iff {a b : Nat} : Nat.beq a b = true ↔ a = b := ⟨Nat.eq_of_beq_eq_true, fun h => by rw [h]; exact Nat.beq_refl b⟩
theorem ble_iff {a b : Nat} : Nat.ble a b = true ↔ a ≤ b := ⟨Nat.le_of_ble_eq_true, Nat.ble_eq_true_of_le⟩
theorem blt_dec (a b : Nat) : Nat.blt a b = decide (a < b) := by rw [Bool.eq_iff_iff, blt_iff, decide_eq_true_eq]
theorem beq_dec (a b : Nat) : Nat.beq a b = decide (a = b) := by rw [Bool.eq_iff_iff, beq_iff, decide_eq_true_eq]
def s1f (es : List Nat) : Nat → Nat → List Nat → List Nat
  | 0, _, en => en
  | k + 1, i, en => s1f es k (Nat.succ i) (sf en (gd es i) (Nat.succ (gd en (gd es i))))
def s2f : Nat → Nat → List Nat → List Nat
  | 0, _, en => en
  | k + 1, i, en => s2f k (Nat.succ i) (sf en i (Nat.add (gd en i) (gd en (Nat.pred i))))
def s3f (en : List Nat) : Nat → Nat → List Nat → List Nat
  | 0, _, st => st
  | k + 1, i, st => s3f en k (Nat.succ i) (sf st i (Nat.casesOn i 0 (fun j => gd en j)))
def s4f (es : List Nat) : Nat → Nat → List Nat → List Nat → List Nat → List Nat × List Nat × List Nat
  | 0, _, el, lo, ns => (el, lo, ns)
  | k + 1, i, el, lo, ns => s4f es k (Nat.succ i) (sf el (gd ns (gd es i)) i) (sf lo i (gd ns (gd es i))) (sf ns (gd es i) (Nat.succ (gd ns (gd es i))))
def ok4f (es : List Nat) : Nat → Nat → List Nat → Bool
  | 0, _, _ => true
  | k + 1, i, ns => an (Nat.blt (gd ns (gd es i)) 4) (ok4f es k (Nat.succ i) (sf ns (gd es i) (Nat.succ (gd ns (gd es i)))))
theorem s1f_eq (es : List Nat) : ∀ (k i : Nat) (en : List Nat), s1f es k i en = s1 es k i en
  | 0, _, _ => rfl
  | k + 1, i, en => by
    show s1f es k (i + 1) (sf en (gd es i) (gd en (gd es i) + 1)) = _
    rw [s1f_eq es k, sf_eq, gd_eq, gd_eq]; rfl
theorem s2f_eq : ∀ (k i : Nat) (en : List Nat), s2f k i en = s2 k i en
  | 0, _, _ => rfl
  | k + 1, i, en => by
    show s2f k (i + 1) (sf en i (gd en i + gd en (i - 1))) = _
    rw [s2f_eq k, sf_eq, gd_eq, gd_eq]; rfl
theorem s3f_eq (en : List Nat) : ∀ (k i : Nat) (st : List Nat), s3f en k i st = s3 en k i st
  | 0, _, _ => rfl
  | k + 1, 0, st => by
    show s3f en k 1 (sf st 0 0) = _
    rw [s3f_eq en k, sf_eq]; rfl
  | k + 1, i + 1, st => by
    show s3f en k (i + 1 + 1) (sf st (i + 1) (gd en i)) = _
    rw [s3f_eq en k, sf_eq, gd_eq]; rfl
theorem gset {xs : List Nat} {i v : Nat} (h : i < xs.length) : (xs.set i v).getD i 0 = v := by simp [List.getD_eq_getElem?_getD, h]
theorem s4f_eq (es : List Nat) : ∀ (k i : Nat) (el lo ns : List Nat), i + k ≤ lo.length → s4f es k i el lo ns = s4 es k i el lo ns
  | 0, _, _, _, _, _ => rfl
  | k + 1, i, el, lo, ns, h => by
    show s4f es k (i + 1) (sf el (gd ns (gd es i)) i) (sf lo i (gd ns (gd es i))) (sf ns (gd es i) (gd ns (gd es i) + 1)) = s4 es k (i + 1) (el.set ((lo.set i (ns.getD (es.getD i 0) 0)).getD i 0) i) (lo.set i (ns.getD (es.getD i 0) 0)) (ns.set (es.getD i 0) (ns.getD (es.getD i 0) 0 + 1))
    rw [s4f_eq es k _ _ _ _ (by rw [sf_eq, List.length_set]; omega), sf_eq, sf_eq, sf_eq, gd_eq, gd_eq, gset (by omega)]
theorem ok1_gen (es : List Nat) : ∀ (k i : Nat) (en : List Nat), i + k = es.length → es.length < 1000 → (∀ j, es.getD j 0 < en.length) → en.length < 1000 → ok1 es k i en = true
  | 0, _, _, _, _, _, _ => rfl
  | k + 1, i, en, h, h1, h2, h3 => by
    simp only [ok1, Bool.and_eq_true, decide_eq_true_eq]
    exact ⟨⟨⟨⟨by omega, by omega⟩, h2 i⟩, Nat.lt_trans (h2 i) h3⟩, ok1_gen es k (i + 1) _ (by omega) h1 (by intro j; rw [List.length_set]; exact h2 j) (by rw [List.length_set]; exact h3)⟩
theorem ok2_gen : ∀ (k i : Nat) (en : List Nat), 1 ≤ i → i + k ≤ en.length → en.length < 1000 → ok2 k i en = true
  | 0, _, _, _, _, _ => rfl
  | k + 1, i, en, h, h1, h2 => by
    simp only [ok2, Bool.and_eq_true, decide_eq_true_eq]
    exact ⟨⟨⟨h, by omega⟩, by omega⟩, ok2_gen k (i + 1) _ (by omega) (by rw [List.length_set]; omega) (by rw [List.length_set]; omega)⟩
theorem ok3_gen (en : List Nat) : ∀ (k i : Nat) (st : List Nat), i + k ≤ st.length → st.length < 1000 → i + k ≤ en.length → ok3 en k i st = true
  | 0, _, _, _, _, _ => rfl
  | k + 1, i, st, h, h1, h2 => by
    simp only [ok3, Bool.and_eq_true, decide_eq_true_eq]
    exact ⟨⟨⟨by omega, by omega⟩, by omega⟩, ok3_gen en k (i + 1) _ (by rw [List.length_set]; omega) (by rw [List.length_set]; omega) (by omega)⟩
theorem ok4_gen (es : List Nat) (n : Nat) : ∀ (k i : Nat) (el lo ns : List Nat), i + k = es.length → es.length = 4 → el.length = 4 → lo.length = 4 → (∀ j, es.getD j 0 < ns.length) → ns.length < 1000 → ok4f es k i ns = true → ok4 es k i el lo ns = true
  | 0, _, _, _, _, _, _, _, _, _, _, _ => rfl
  | k + 1, i, el, lo, ns, h, h1, h2, h3, h4, h5, q => by
    have q' : an (Nat.blt (gd ns (gd es i)) 4) (ok4f es k (i + 1) (sf ns (gd es i) (gd ns (gd es i) + 1))) = true := q
    rw [an_eq, Bool.and_eq_true, blt_iff, sf_eq, gd_eq, gd_eq] at q'
    have g := gset (xs := lo) (i := i) (v := ns.getD (es.getD i 0) 0) (by omega)
    simp only [ok4, Bool.and_eq_true, decide_eq_true_eq, g, List.length_set]
    exact ⟨⟨⟨⟨⟨⟨⟨⟨by omega, by omega⟩, h4 i⟩, Nat.lt_trans (h4 i) h5⟩, by omega⟩, by omega⟩, by omega⟩, by omega⟩, ok4_gen es n k (i + 1) _ _ _ (by omega) h1 (by rw [List.length_set]; exact h2) (by rw [List.length_set]; exact h3) (by intro j; rw [List.length_set]; exact h4 j) (by rw [List.length_set]; exact h5) q'.2⟩
theorem s1_len (es : List Nat) : ∀ (k i : Nat) (en : List Nat), (s1 es k i en).length = en.length
  | 0, _, _ => rfl
  | k + 1, i, en => by rw [s1, s1_len es k, List.length_set]
theorem s2_len : ∀ (k i : Nat) (en : List Nat), (s2 k i en).length = en.length
  | 0, _, _ => rfl
  | k + 1, i, en => by rw [s2, s2_len k, List.length_set]
theorem s3_len (en : List Nat) : ∀ (k i : Nat) (st : List Nat), (s3 en k i st).length = st.length
  | 0, _, _ => rfl
  | k + 1, i, st => by rw [s3, s3_len en k, List.length_set]
theorem s4_len (es : List Nat) : ∀ (k i : Nat) (el lo ns : List Nat), (s4 es k i el lo ns).1.length = el.length ∧ (s4 es k i el lo ns).2.1.length = lo.length
  | 0, _, _, _, _ => ⟨rfl, rfl⟩
  | k + 1, i, el, lo, ns => by
    obtain ⟨a, b⟩ := s4_len es k (i + 1) (el.set ((lo.set i (ns.getD (es.getD i 0) 0)).getD i 0) i) (lo.set i (ns.getD (es.getD i 0) 0)) (ns.set (es.getD i 0) (ns.getD (es.getD i 0) 0 + 1))
    rw [s4]; exact ⟨by rw [a, List.length_set], by rw [b, List.length_set]⟩
theorem rp_get (n i : Nat) : (List.replicate n 0).getD i 0 = 0 := by
  by_cases h : i < n
  · simp [List.getD_eq_getElem?_getD, h]
  · simp [List.getD_eq_getElem?_getD, List.getElem?_eq_none, Nat.le_of_not_lt h]
theorem pEn_len (es : List Nat) (cn : Nat) : (pEn es cn).length = max es.length cn := by rw [pEn, s2_len, pE1, s1_len, List.length_replicate]
theorem pSt_len (es : List Nat) (cn : Nat) : (pSt es cn).length = max es.length cn := by rw [pSt, s3_len, List.length_replicate]
theorem pS4_len (es : List Nat) (cn : Nat) : (pS4 es cn).1.length = es.length ∧ (pS4 es cn).2.1.length = es.length := by
  obtain ⟨a, b⟩ := s4_len es es.length 0 (List.replicate es.length 0) (List.replicate es.length 0) ((pSt es cn).take cn)
  exact ⟨by rw [pS4, a, List.length_replicate], by rw [pS4, b, List.length_replicate]⟩
/-- the five lists of a new Partition over four elements, each forced -/
def chain (cn cap : Nat) (es : List Nat) (k : List Nat → List Nat → List Nat → List Nat → Bool) : Bool :=
  fcL (s1f es 4 0 (rpl cap)) fun E1 => fcL (s2f (Nat.pred cn) 1 E1) fun En => fcL (s3f En cn 0 (rpl cap)) fun St => fcL (s4f es 4 0 (rpl 4) (rpl 4) (St.take cn)).1 fun el => fcL (s4f es 4 0 (rpl 4) (rpl 4) (St.take cn)).2.1 fun lo =>
  an (ok4f es 4 0 (St.take cn)) (k En St el lo)
theorem chain_eq {cn cap : Nat} {es : List Nat} {k : List Nat → List Nat → List Nat → List Nat → Bool} (h4 : es.length = 4) (hc : cap = max es.length cn) (h1 : 1 ≤ cn) (h8 : cn ≤ 8) (he : ∀ j, es.getD j 0 < cn) (h : chain cn cap es k = true) : okC es cn = true ∧ k (pEn es cn) (pSt es cn) (pS4 es cn).1 (pS4 es cn).2.1 = true := by
  have hm : cn ≤ max es.length cn := Nat.le_max_right _ _
  have hM : max es.length cn ≤ 8 := Nat.max_le.mpr ⟨by omega, h8⟩
  subst hc
  simp only [chain, fcL_eq, an_eq, Bool.and_eq_true, rpl_eq, s1f_eq, s2f_eq, s3f_eq] at h
  rw [show Nat.pred cn = cn - 1 from rfl, ← h4] at h
  change ok4f es es.length 0 ((pSt es cn).take cn) = true ∧ k (pEn es cn) (pSt es cn) (s4f es es.length 0 (List.replicate es.length 0) (List.replicate es.length 0) ((pSt es cn).take cn)).1 (s4f es es.length 0 (List.replicate es.length 0) (List.replicate es.length 0) ((pSt es cn).take cn)).2.1 = true at h
  rw [s4f_eq es _ _ _ _ _ (by rw [List.length_replicate]; omega)] at h
  refine ⟨?_, h.2⟩
  have hl := pSt_len es cn
  have hl' := pEn_len es cn
  have ht : ((pSt es cn).take cn).length = cn := by rw [List.length_take, hl]; omega
  simp only [okC, Bool.and_eq_true, decide_eq_true_eq]
  refine ⟨⟨⟨⟨⟨?_, ?_⟩, ?_⟩, ?_⟩, by omega⟩, by omega⟩
  · exact ok1_gen es _ _ _ (by omega) (by omega) (by intro j; rw [List.length_replicate]; exact Nat.lt_of_lt_of_le (he j) hm) (by rw [List.length_replicate]; omega)
  · exact ok2_gen _ _ _ (by omega) (by rw [pE1, s1_len, List.length_replicate]; omega) (by rw [pE1, s1_len, List.length_replicate]; omega)
  · exact ok3_gen _ _ _ _ (by rw [List.length_replicate]; omega) (by rw [List.length_replicate]; omega) (by omega)
  · exact ok4_gen es 0 _ _ _ _ _ (by omega) h4 (by rw [List.length_replicate]; exact h4) (by rw [List.length_replicate]; exact h4) (by intro j; rw [ht]; exact he j) (by omega) h.1
def fr1 (i : Nat) (es : List Nat) : Bool := (decide (¬ 0 < i) || decide (¬ es.getD 0 0 = es.getD i 0)) && ((decide (¬ 1 < i) || decide (¬ es.getD 1 0 = es.getD i 0)) && (decide (¬ 2 < i) || decide (¬ es.getD 2 0 = es.getD i 0)))
def fr2 (i m : Nat) (es : List Nat) : Bool := if es.getD m 0 = es.getD i 0 then decide (i = m) else fr1 i es
def fi (i : Nat) (lo es st : List Nat) : Bool := decide (lo.getD i 0 = st.getD (es.getD i 0) 0)
def fib (i : Nat) (lo es st : List Nat) : Bool := decide (lo.getD i 0 < 1000) && decide (st.getD (es.getD i 0) 0 < 1000)
theorem n_iff {a b : Nat} (ha : a < 1000) (hb : b < 1000) : (Int32.ofNat a = Int32.ofNat b) ↔ a = b := ⟨fun h => n_inj h ha hb, fun h => by rw [h]⟩
theorem n_ltiff {a b : Nat} (ha : a < 1000) (hb : b < 1000) : (Int32.ofNat a < Int32.ofNat b) ↔ a < b := ⟨fun h => by rw [Int32.lt_iff_toInt_lt, n_int ha, n_int hb] at h; omega, fun h => n_lt h hb⟩
theorem own_fr1 {i : Nat} {es : List Nat} (hi : i < 1000) (he : ∀ j, es.getD j 0 < 1000) : (((¬ ((0 : Int32) < (Int32.ofNat i))) ∨ (¬ ((Int32.ofNat (es.getD 0 0)) = (Int32.ofNat (es.getD i 0))))) ∧ (((¬ ((1 : Int32) < (Int32.ofNat i))) ∨ (¬ ((Int32.ofNat (es.getD 1 0)) = (Int32.ofNat (es.getD i 0))))) ∧ ((¬ ((2 : Int32) < (Int32.ofNat i))) ∨ (¬ ((Int32.ofNat (es.getD 2 0)) = (Int32.ofNat (es.getD i 0))))))) ↔ fr1 i es = true := by
  rw [show ((0 : Int32) < Int32.ofNat i) ↔ 0 < i from n_ltiff (a := 0) (by decide) hi, show ((1 : Int32) < Int32.ofNat i) ↔ 1 < i from n_ltiff (a := 1) (by decide) hi, show ((2 : Int32) < Int32.ofNat i) ↔ 2 < i from n_ltiff (a := 2) (by decide) hi, n_iff (he 0) (he i), n_iff (he 1) (he i), n_iff (he 2) (he i)]
  simp only [fr1, Bool.and_eq_true, Bool.or_eq_true, decide_eq_true_eq]
theorem own_fa {i : Nat} {lo es st : List Nat} (m : Nat) (hi : i < 1000) (he : ∀ j, es.getD j 0 < 1000) (b : fib i lo es st = true) (h : fi i lo es st = fr1 i es) : F7 i lo es st = F8 i m (0 : Int32) es := by
  simp only [fib, Bool.and_eq_true, decide_eq_true_eq] at b
  unfold F7 F8
  apply bz_congr
  rw [if_pos rfl, n_iff b.1 b.2, own_fr1 hi he, ← h, fi, decide_eq_true_eq]
theorem own_fb {i m : Nat} {lo es st : List Nat} (hi : i < 1000) (hm : m < 1000) (he : ∀ j, es.getD j 0 < 1000) (b : fib i lo es st = true) (h : fi i lo es st = fr2 i m es) : F7 i lo es st = F8 i m (1 : Int32) es := by
  simp only [fib, Bool.and_eq_true, decide_eq_true_eq] at b
  unfold F7 F8
  apply bz_congr
  rw [if_neg (show ¬ (1 : Int32) = (0 : Int32) by decide), n_iff b.1 b.2]
  rw [fi, fr2] at h
  by_cases q : es.getD m 0 = es.getD i 0
  · rw [if_pos q] at h
    rw [if_pos ((n_iff (he m) (he i)).mpr q), n_iff hi hm, ← decide_eq_true_eq (p := i = m), ← h, decide_eq_true_eq]
  · rw [if_neg q] at h
    rw [if_neg (fun z => q ((n_iff (he m) (he i)).mp z)), own_fr1 hi he, ← h, decide_eq_true_eq]
def fr1f (i : Nat) (es : List Nat) : Bool := an (nt (an (Nat.blt 0 i) (Nat.beq (gd es 0) (gd es i)))) (an (nt (an (Nat.blt 1 i) (Nat.beq (gd es 1) (gd es i)))) (nt (an (Nat.blt 2 i) (Nat.beq (gd es 2) (gd es i)))))
theorem fr1f_eq (i : Nat) (es : List Nat) : fr1f i es = fr1 i es := by
  simp only [fr1f, an_eq, nt_eq, blt_dec, beq_dec, gd_eq, fr1, decide_not, Bool.not_and]
def fr2f (i m : Nat) (es : List Nat) : Bool := Bool.casesOn (Nat.beq (gd es m) (gd es i)) (fr1f i es) (Nat.beq i m)
theorem fr2f_eq (i m : Nat) (es : List Nat) : fr2f i m es = fr2 i m es := by
  rw [fr2f, fr2, beq_dec, beq_dec, gd_eq, gd_eq, fr1f_eq]
  by_cases h : es.getD m 0 = es.getD i 0
  · rw [if_pos h, decide_eq_true h]
  · rw [if_neg h, decide_eq_false h]
def tst (es St el lo : List Nat) : Bool :=
  alt 4 fun m => an (Nat.blt (gd lo m) 4) (an (Nat.blt (gd St (gd es m)) 4) (an (Nat.blt (gd el (gd St (gd es m))) 4) (an (bq (Nat.beq (gd lo m) (gd St (gd es m))) (fr1f m es)) (fcL (sf (sf lo m (gd St (gd es m))) (gd el (gd St (gd es m))) (gd lo m)) fun lo2 => alt 4 fun i => an (Nat.blt (gd lo2 i) 4) (bq (Nat.beq (gd lo2 i) (gd St (gd es i))) (fr2f i m es))))))
def chk (cn cap y0 y1 y2 y3 : Nat) : Bool := chain cn cap [y0, y1, y2, y3] fun _ St el lo => tst [y0, y1, y2, y3] St el lo
theorem chk_ok {cn cap y0 y1 y2 y3 : Nat} (hc : cap = max [y0, y1, y2, y3].length cn) (h1 : 1 ≤ cn) (h8 : cn ≤ 8) (hcn : ∀ j, [y0, y1, y2, y3].getD j 0 < cn) (h : chk cn cap y0 y1 y2 y3 = true) : okA cn y0 y1 y2 y3 = true ∧ ∀ m, m < 4 → okB cn y0 y1 y2 y3 m = true := by
  have he : ∀ j, [y0, y1, y2, y3].getD j 0 < 1000 := fun j => Nat.lt_of_lt_of_le (hcn j) (by omega)
  obtain ⟨hC, hT⟩ := chain_eq rfl hc h1 h8 hcn h
  have h4 : [y0, y1, y2, y3].length = 4 := rfl
  unfold okA okB
  unfold chk at h
  generalize [y0, y1, y2, y3] = es at *
  have hl := pSt_len es cn
  have hm : cn ≤ max es.length cn := Nat.le_max_right _ _
  have hM : max es.length cn ≤ 8 := Nat.max_le.mpr ⟨by omega, h8⟩
  obtain ⟨l1, l2⟩ := pS4_len es cn
  have t := alt_eq hT
  simp only [fcL_eq, an_eq, Bool.and_eq_true, blt_iff, sf_eq, gd_eq, fr1f_eq, fr2f_eq] at t
  have fS : ∀ i, i < 4 → (pSt es cn).getD (es.getD i 0) 0 < 1000 := fun i hi => Nat.lt_trans (t i hi).2.1 (by decide)
  constructor
  · simp only [Bool.and_eq_true, List.all_eq_true, List.mem_range, decide_eq_true_eq]
    refine ⟨⟨⟨hC, by omega⟩, by omega⟩, fun i hi m hm => own_fa m (by omega) he ?_ ?_⟩
    · simp only [fib, Bool.and_eq_true, decide_eq_true_eq]
      exact ⟨Nat.lt_trans (t i hi).1 (by decide), fS i hi⟩
    · have q := bq_eq (t i hi).2.2.2.1
      rw [beq_dec] at q; exact q
  · intro m hm'
    obtain ⟨g1, g2, g3, -, g5⟩ := t m hm'
    have z : ∀ i, (zeros es cn).getD i 0 = 0 := fun i => rp_get _ i
    have hz : (zeros es cn).length = max es.length cn := List.length_replicate
    have hF : mF es (pSt es cn) (zeros es cn) m = (pSt es cn).getD (es.getD m 0) 0 := by rw [mF, mB, z, Nat.add_zero]
    have hL : mLo es (pSt es cn) (pS4 es cn).1 (pS4 es cn).2.1 (zeros es cn) m = ((pS4 es cn).2.1.set m ((pSt es cn).getD (es.getD m 0) 0)).set ((pS4 es cn).1.getD ((pSt es cn).getD (es.getD m 0) 0) 0) ((pS4 es cn).2.1.getD m 0) := by rw [mLo, hF]
    simp only [Bool.and_eq_true, List.all_eq_true, List.mem_range, decide_eq_true_eq]
    refine ⟨⟨?_, by rw [hL, List.length_set, List.length_set]; omega⟩, fun i hi => own_fb (by omega) (by omega) he ?_ ?_⟩
    · simp only [okM, Bool.and_eq_true, decide_eq_true_eq, hF, mB, z, hz, hl, l1, l2]
      have := hcn m
      refine ⟨⟨⟨⟨⟨⟨⟨⟨⟨⟨⟨⟨⟨⟨?_, ?_⟩, ?_⟩, ?_⟩, ?_⟩, ?_⟩, ?_⟩, ?_⟩, ?_⟩, ?_⟩, ?_⟩, ?_⟩, ?_⟩, ?_⟩, ?_⟩ <;> first | omega | trivial | exact decide_eq_true (he m)
    · simp only [fib, Bool.and_eq_true, decide_eq_true_eq, hL]
      have q := alt_eq g5 i hi
      simp only [Bool.and_eq_true, blt_iff] at q
      exact ⟨Nat.lt_trans q.1 (by decide), fS i hi⟩
    · have q := alt_eq g5 i hi
      simp only [Bool.and_eq_true, beq_dec] at q
      rw [hL]; exact bq_eq q.2
def chkRow (d cap y0 : Nat) : Bool := alt (Nat.succ d) fun y1 => alt (Nat.succ d) fun y2 => alt (Nat.succ d) fun y3 => chk (Nat.succ d) cap y0 y1 y2 y3
set_option maxRecDepth 100000 in
theorem own_row_0_0 : chkRow 0 4 0 = true := by decide +kernel
set_option maxRecDepth 100000 in
theorem own_row_1_0 : chkRow 1 4 0 = true := by decide +kernel
set_option maxRecDepth 100000 in
theorem own_row_1_1 : chkRow 1 4 1 = true := by decide +kernel
set_option maxRecDepth 100000 in
theorem own_row_2_0 : chkRow 2 4 0 = true := by decide +kernel
set_option maxRecDepth 100000 in
theorem own_row_2_1 : chkRow 2 4 1 = true := by decide +kernel
set_option maxRecDepth 100000 in
theorem own_row_2_2 : chkRow 2 4 2 = true := by decide +kernel
set_option maxRecDepth 100000 in
theorem own_row_3_0 : chkRow 3 4 0 = true := by decide +kernel
set_option maxRecDepth 100000 in
theorem own_row_3_1 : chkRow 3 4 1 = true := by decide +kernel
set_option maxRecDepth 100000 in
theorem own_row_3_2 : chkRow 3 4 2 = true := by decide +kernel
set_option maxRecDepth 100000 in
theorem own_row_3_3 : chkRow 3 4 3 = true := by decide +kernel
set_option maxRecDepth 100000 in
theorem own_row_4_0 : chkRow 4 5 0 = true := by decide +kernel
set_option maxRecDepth 100000 in
theorem own_row_4_1 : chkRow 4 5 1 = true := by decide +kernel
set_option maxRecDepth 100000 in
theorem own_row_4_2 : chkRow 4 5 2 = true := by decide +kernel
set_option maxRecDepth 100000 in
theorem own_row_4_3 : chkRow 4 5 3 = true := by decide +kernel
set_option maxRecDepth 100000 in
theorem own_row_4_4 : chkRow 4 5 4 = true := by decide +kernel
set_option maxRecDepth 100000 in
theorem own_row_5_0 : chkRow 5 6 0 = true := by decide +kernel
set_option maxRecDepth 100000 in
theorem own_row_5_1 : chkRow 5 6 1 = true := by decide +kernel
set_option maxRecDepth 100000 in
theorem own_row_5_2 : chkRow 5 6 2 = true := by decide +kernel
set_option maxRecDepth 100000 in
theorem own_row_5_3 : chkRow 5 6 3 = true := by decide +kernel
set_option maxRecDepth 100000 in
theorem own_row_5_4 : chkRow 5 6 4 = true := by decide +kernel
set_option maxRecDepth 100000 in
theorem own_row_5_5 : chkRow 5 6 5 = true := by decide +kernel
set_option maxRecDepth 100000 in
theorem own_row_6_0 : chkRow 6 7 0 = true := by decide +kernel
set_option maxRecDepth 100000 in
theorem own_row_6_1 : chkRow 6 7 1 = true := by decide +kernel
set_option maxRecDepth 100000 in
theorem own_row_6_2 : chkRow 6 7 2 = true := by decide +kernel
set_option maxRecDepth 100000 in
theorem own_row_6_3 : chkRow 6 7 3 = true := by decide +kernel
set_option maxRecDepth 100000 in
theorem own_row_6_4 : chkRow 6 7 4 = true := by decide +kernel
set_option maxRecDepth 100000 in
theorem own_row_6_5 : chkRow 6 7 5 = true := by decide +kernel
set_option maxRecDepth 100000 in
theorem own_row_6_6 : chkRow 6 7 6 = true := by decide +kernel
set_option maxRecDepth 100000 in
theorem own_row_7_0 : chkRow 7 8 0 = true := by decide +kernel
set_option maxRecDepth 100000 in
theorem own_row_7_1 : chkRow 7 8 1 = true := by decide +kernel
set_option maxRecDepth 100000 in
theorem own_row_7_2 : chkRow 7 8 2 = true := by decide +kernel
set_option maxRecDepth 100000 in
theorem own_row_7_3 : chkRow 7 8 3 = true := by decide +kernel
set_option maxRecDepth 100000 in
theorem own_row_7_4 : chkRow 7 8 4 = true := by decide +kernel
set_option maxRecDepth 100000 in
theorem own_row_7_5 : chkRow 7 8 5 = true := by decide +kernel
set_option maxRecDepth 100000 in
theorem own_row_7_6 : chkRow 7 8 6 = true := by decide +kernel
set_option maxRecDepth 100000 in
theorem own_row_7_7 : chkRow 7 8 7 = true := by decide +kernel
theorem own_rows (d y0 : Nat) (hd : d < 8) (h : y0 < d + 1) : chkRow d (max 4 (d + 1)) y0 = true := by
  have q : d = 0 ∨ d = 1 ∨ d = 2 ∨ d = 3 ∨ d = 4 ∨ d = 5 ∨ d = 6 ∨ d = 7 := by omega
  rcases q with rfl | rfl | rfl | rfl | rfl | rfl | rfl | rfl
  · have q : y0 = 0 := by omega
    rcases q with rfl
    exact own_row_0_0
  · have q : y0 = 0 ∨ y0 = 1 := by omega
    rcases q with rfl | rfl
    · exact own_row_1_0
    · exact own_row_1_1
  · have q : y0 = 0 ∨ y0 = 1 ∨ y0 = 2 := by omega
    rcases q with rfl | rfl | rfl
    · exact own_row_2_0
    · exact own_row_2_1
    · exact own_row_2_2
  · have q : y0 = 0 ∨ y0 = 1 ∨ y0 = 2 ∨ y0 = 3 := by omega
    rcases q with rfl | rfl | rfl | rfl
    · exact own_row_3_0
    · exact own_row_3_1
    · exact own_row_3_2
    · exact own_row_3_3
  · have q : y0 = 0 ∨ y0 = 1 ∨ y0 = 2 ∨ y0 = 3 ∨ y0 = 4 := by omega
    rcases q with rfl | rfl | rfl | rfl | rfl
    · exact own_row_4_0
    · exact own_row_4_1
    · exact own_row_4_2
    · exact own_row_4_3
    · exact own_row_4_4
  · have q : y0 = 0 ∨ y0 = 1 ∨ y0 = 2 ∨ y0 = 3 ∨ y0 = 4 ∨ y0 = 5 := by omega
    rcases q with rfl | rfl | rfl | rfl | rfl | rfl
    · exact own_row_5_0
    · exact own_row_5_1
    · exact own_row_5_2
    · exact own_row_5_3
    · exact own_row_5_4
    · exact own_row_5_5
  · have q : y0 = 0 ∨ y0 = 1 ∨ y0 = 2 ∨ y0 = 3 ∨ y0 = 4 ∨ y0 = 5 ∨ y0 = 6 := by omega
    rcases q with rfl | rfl | rfl | rfl | rfl | rfl | rfl
    · exact own_row_6_0
    · exact own_row_6_1
    · exact own_row_6_2
    · exact own_row_6_3
    · exact own_row_6_4
    · exact own_row_6_5
    · exact own_row_6_6
  · have q : y0 = 0 ∨ y0 = 1 ∨ y0 = 2 ∨ y0 = 3 ∨ y0 = 4 ∨ y0 = 5 ∨ y0 = 6 ∨ y0 = 7 := by omega
    rcases q with rfl | rfl | rfl | rfl | rfl | rfl | rfl | rfl
    · exact own_row_7_0
    · exact own_row_7_1
    · exact own_row_7_2
    · exact own_row_7_3
    · exact own_row_7_4
    · exact own_row_7_5
    · exact own_row_7_6
    · exact own_row_7_7
theorem own_at {cn y0 y1 y2 y3 : Nat} (h1 : 1 ≤ cn) (h8 : cn ≤ 8) (a0 : y0 < cn) (a1 : y1 < cn) (a2 : y2 < cn) (a3 : y3 < cn) : okA cn y0 y1 y2 y3 = true ∧ ∀ m, m < 4 → okB cn y0 y1 y2 y3 m = true := by
  obtain ⟨d, rfl⟩ : ∃ d, cn = d + 1 := ⟨cn - 1, by omega⟩
  have h := own_rows d y0 (by omega) a0
  refine chk_ok rfl h1 h8 (fun j => ?_) (alt_eq (alt_eq (alt_eq h y1 a1) y2 a2) y3 a3)
  have : j = 0 ∨ j = 1 ∨ j = 2 ∨ j = 3 ∨ 4 ≤ j := by omega
  rcases this with rfl | rfl | rfl | rfl | q
  · exact a0
  · exact a1
  · exact a2
  · exact a3
  · rw [List.getD_eq_getElem?_getD, List.getElem?_eq_none (by show 4 ≤ j; exact q)]; exact h1
theorem okA.parts {cn y0 y1 y2 y3 : Nat} (h : okA cn y0 y1 y2 y3 = true) : okC [y0, y1, y2, y3] cn = true ∧ (pS4 [y0, y1, y2, y3] cn).2.1.length = 4 ∧ cn ≤ (pSt [y0, y1, y2, y3] cn).length ∧ ∀ i, i < 4 → ∀ m, m < 4 → F7 i (pS4 [y0, y1, y2, y3] cn).2.1 [y0, y1, y2, y3] (pSt [y0, y1, y2, y3] cn) = F8 i m (0 : Int32) [y0, y1, y2, y3] := by
  simp only [okA, Bool.and_eq_true, decide_eq_true_eq, List.all_eq_true, List.mem_range] at h
  exact ⟨h.1.1.1, h.1.1.2, h.1.2, h.2⟩
theorem okB.parts {cn y0 y1 y2 y3 m : Nat} (h : okB cn y0 y1 y2 y3 m = true) : okM [y0, y1, y2, y3] (pSt [y0, y1, y2, y3] cn) (pS4 [y0, y1, y2, y3] cn).1 (pS4 [y0, y1, y2, y3] cn).2.1 (zeros [y0, y1, y2, y3] cn) (zeros [y0, y1, y2, y3] cn) 0 m = true ∧ (mLo [y0, y1, y2, y3] (pSt [y0, y1, y2, y3] cn) (pS4 [y0, y1, y2, y3] cn).1 (pS4 [y0, y1, y2, y3] cn).2.1 (zeros [y0, y1, y2, y3] cn) m).length = 4 ∧ ∀ i, i < 4 → F7 i (mLo [y0, y1, y2, y3] (pSt [y0, y1, y2, y3] cn) (pS4 [y0, y1, y2, y3] cn).1 (pS4 [y0, y1, y2, y3] cn).2.1 (zeros [y0, y1, y2, y3] cn) m) [y0, y1, y2, y3] (pSt [y0, y1, y2, y3] cn) = F8 i m (1 : Int32) [y0, y1, y2, y3] := by
  simp only [okB, Bool.and_eq_true, decide_eq_true_eq, List.all_eq_true, List.mem_range] at h
  exact ⟨h.1.1, h.1.2, h.2⟩
theorem own_cnt {v k : Int32} (h : v = ((1 : Int32) + (k &&& (7 : Int32)))) : ∃ c : Nat, v = Int32.ofNat c ∧ 1 ≤ c ∧ c ≤ 8 := by
  subst h
  have e : ni (k &&& (7 : Int32)) = ni k % 8 := by rw [ni_and, show ni (7 : Int32) = 2 ^ 3 - 1 from rfl, mask_n]
  refine ⟨ni k % 8 + 1, ?_, by omega, by omega⟩
  rw [← n_one, ← e, ofni, Int32.add_comm]
theorem own_m {v k : Int32} (h : v = ((iushr k (1 : Int32)) &&& (3 : Int32))) : ∃ c : Nat, v = Int32.ofNat c ∧ c < 4 := by
  subst h
  have e : ni ((iushr k (1 : Int32)) &&& (3 : Int32)) = ni (iushr k (1 : Int32)) % 4 := by rw [ni_and, show ni (3 : Int32) = 2 ^ 2 - 1 from rfl, mask_n]
  refine ⟨ni (iushr k (1 : Int32)) % 4, ?_, by omega⟩
  rw [← e, ofni]
theorem own_e (x : Int32) {c : Nat} (h1 : 1 ≤ c) (h4 : c ≤ 8) : ∃ n : Nat, ((x &&& (2147483647 : Int32)) % (Int32.ofNat c)) = Int32.ofNat n ∧ n < c := by
  obtain ⟨n, a, b⟩ := remN x (Int32.ofNat c) c (by show (BitVec.ofNat 32 c).toNat = c; rw [BitVec.toNat_ofNat]; omega) h1 (by omega)
  exact ⟨n, b, a⟩
theorem own_el {es : List Nat} {cn i : Nat} {a b c d : Nat} (h : es = [a, b, c, d]) (ha : a < cn) (hb : b < cn) (hc : c < cn) (hd : d < cn) (hi : i < 4) : es.getD i 0 < cn := by
  subst h
  have : i = 0 ∨ i = 1 ∨ i = 2 ∨ i = 3 := by omega
  rcases this with rfl | rfl | rfl | rfl <;> assumption
theorem pd__28_5bII_29V : parseMethodDescriptor "([II)V" = some ⟨[(.array .int), .int], none⟩ := by decide +kernel
theorem pd__28I_29V : parseMethodDescriptor "(I)V" = some ⟨[.int], none⟩ := by decide +kernel
theorem pd__28I_29Z : parseMethodDescriptor "(I)Z" = some ⟨[.int], some .boolean⟩ := by decide +kernel
theorem pd__28_5bIIIZ_29Z : parseMethodDescriptor "([IIIZ)Z" = some ⟨[(.array .int), .int, .int, .boolean], some .boolean⟩ := by decide +kernel
theorem ef_0 (m : MethodId) (x0 : Int32) (x1 : Int32) (x2 : Int32) (x3 : Int32) (x4 : Int32) (x5 : Int32) : entryFrame m #[(.int x0), (.int x1), (.int x2), (.int x3), (.int x4), (.int x5)] maxLocals = mkF m 0 #[.val (.int x0), .val (.int x1), .val (.int x2), .val (.int x3), .val (.int x4), .val (.int x5), .unset, .unset, .unset, .unset, .unset, .unset, .unset, .unset, .unset, .unset] [] := by first | (simp [entryFrame, mkF, argsToLocals, Value.category, maxLocals]; done) | rfl
def Q0 (Z : State) (xa : Int32) (xb : Int32) (xc : Int32) (xd : Int32) (xn : Int32) (xs : Int32) (n0 : Nat) (Rst : RL) (v : Option Value) (h : Heap) (L : List Loc) : Prop := v = some (.int (1 : Int32)) ∧ Fr n0 L ∧ Rep Z n0 h (Rst)
set_option maxRecDepth 65536 in
set_option maxHeartbeats 40000000 in
theorem rm0 (l : Launch) (Z : State) (a0 : Array Value) (hw : ∀ d ∈ tables_1, d.before a0 Z = true) (ws : List Jvm.Cond) (xa : Int32) (xb : Int32) (xc : Int32) (xd : Int32) (xn : Int32) (xs : Int32) (h0 : Heap) (n0 : Nat) (R0 : Rep Z n0 h0 ([])) :
    MetFree l x (head1 (Jvm.Cond.code x code maxLocals ret :: ws) room_1) (fun a U => a = #[(.int xa), (.int xb), (.int xc), (.int xd), (.int xn), (.int xs)] ∧ Z.Warmed39 U.vm ∧ U.heap = h0) (fun _ _ _ _ _ => True) (fun _ U o U' => ∃ v L, o = .returned v ∧ Q0 Z xa xb xc xd xn xs n0 [] v U'.heap L ∧ FrameEnd U o U' L 32 256) := by
  refine MetFree.of_bodySF (plainFor_of_name pn_com_example_witgen_witgen_regex_PartitionIsFirstOfBlockPinLaw) hisR ?_
  intro p e s m args below meth c s₁ Bd hml0 hP hK
  obtain ⟨rfl, hZ, hh⟩ := hP
  have hx := Bd.exec
  have hby := Bd.bytes
  have hml : c.maxLocals = 16 := hml0
  have hown : s.vm.findClass "com/example/witgen/witgen/regex/PartitionIsFirstOfBlockPinLaw" = some m.cls := findClass_of_methodNamed Bd.named
  have hnm := (name_of_methodNamed Bd.named Bd.method).1
  have X0 : Stand p l e room_1 s m #[(.int xa), (.int xb), (.int xc), (.int xd), (.int xn), (.int xs)] below meth c s₁ [] 0 0 := Stand.of_body Bd
  have e0 : s₁.heap = h0 := by rw [← hh, Bd.state]; rfl
  have N0 := Fr.nil n0
  have pre0 : ∀ t, Steps p.tables e below (s₁.setTop (mkF m 0 #[.val (.int xa), .val (.int xb), .val (.int xc), .val (.int xd), .val (.int xn), .val (.int xs), .unset, .unset, .unset, .unset, .unset, .unset, .unset, .unset, .unset, .unset] [])) t → Steps p.tables e below (s₁.setTop (entryFrame m #[(.int xa), (.int xb), (.int xc), (.int xd), (.int xn), (.int xs)] maxLocals)) t := fun t k => castTop (ef_0 m xa xb xc xd xn xs) k
  have pre2 : ∀ t, Steps p.tables e below (s₁.setTop (mkF m 9 #[.val (.int xa), .val (.int xb), .val (.int xc), .val (.int xd), .val (.int xn), .val (.int xs), .val (.int ((1 : Int32) + (xn &&& (7 : Int32)))), .unset, .unset, .unset, .unset, .unset, .unset, .unset, .unset, .unset] [])) t → Steps p.tables e below (s₁.setTop (entryFrame m #[(.int xa), (.int xb), (.int xc), (.int xd), (.int xn), (.int xs)] maxLocals)) t := fun t k => pre0 t (by
    show Steps p.tables e below (s₁.setTop (mkF m 0 #[.val (.int xa), .val (.int xb), .val (.int xc), .val (.int xd), .val (.int xn), .val (.int xs), .unset, .unset, .unset, .unset, .unset, .unset, .unset, .unset, .unset, .unset] [])) _
    refine XS.iconst X0.here hx rfl (hb hby at_0) ?_
    refine XS.iload X0.here hx rfl (hb hby at_1) rfl ?_
    refine XS.bipush X0.here hx rfl (hb hby at_3) ?_
    refine XS.iand X0.here hx rfl (hb hby at_5) rfl ?_
    refine XS.iadd X0.here hx rfl (hb hby at_6) rfl ?_
    refine XS.istore X0.here hx rfl (hb hby at_7) rfl (l' := #[.val (.int xa), .val (.int xb), .val (.int xc), .val (.int xd), .val (.int xn), .val (.int xs), .val (.int ((1 : Int32) + (xn &&& (7 : Int32)))), .unset, .unset, .unset, .unset, .unset, .unset, .unset, .unset, .unset]) rfl ?_
    exact k)
  obtain ⟨v1, hv1⟩ : ∃ z : Int32, z = ((1 : Int32) + (xn &&& (7 : Int32))) := ⟨_, rfl⟩
  rw [← hv1] at pre2
  obtain ⟨cn, hncn, hc1, hc8⟩ := own_cnt hv1
  rw [hncn] at pre2
  have pre3 : ∀ t, Steps p.tables e below (s₁.setTop (mkF m 10 #[.val (.int xa), .val (.int xb), .val (.int xc), .val (.int xd), .val (.int xn), .val (.int xs), .val (.int (Int32.ofNat cn)), .unset, .unset, .unset, .unset, .unset, .unset, .unset, .unset, .unset] [(.int (4 : Int32))])) t → Steps p.tables e below (s₁.setTop (entryFrame m #[(.int xa), (.int xb), (.int xc), (.int xd), (.int xn), (.int xs)] maxLocals)) t := fun t k => pre2 t (by
    show Steps p.tables e below (s₁.setTop (mkF m 9 #[.val (.int xa), .val (.int xb), .val (.int xc), .val (.int xd), .val (.int xn), .val (.int xs), .val (.int (Int32.ofNat cn)), .unset, .unset, .unset, .unset, .unset, .unset, .unset, .unset, .unset] [])) _
    refine XS.iconst X0.here hx rfl (hb hby at_9) ?_
    exact k)
  obtain ⟨T4, h4, b4, X4, e4, R4, st4⟩ := gNewP X0 hx hZ (hw _ (List.mem_of_getElem? (i := 0) rfl)) e0 R0 (g := (mkF m 10 #[.val (.int xa), .val (.int xb), .val (.int xc), .val (.int xd), .val (.int xn), .val (.int xs), .val (.int (Int32.ofNat cn)), .unset, .unset, .unset, .unset, .unset, .unset, .unset, .unset, .unset] [(.int (4 : Int32))])) rfl (hb hby at_10) rfl (by decide) 4 (by decide) (by decide) (by decide) (by decide) (vs := [(.int (0 : Int32)), (.int (0 : Int32)), (.int (0 : Int32)), (.int (0 : Int32))]) rfl
  replace R4 : Rep Z n0 h4 ((b4, Ar .int [(.int (0 : Int32)), (.int (0 : Int32)), (.int (0 : Int32)), (.int (0 : Int32))]) :: []) := R4
  have pre5 : ∀ t, Steps p.tables e below (T4.setTop (mkF m 12 #[.val (.int xa), .val (.int xb), .val (.int xc), .val (.int xd), .val (.int xn), .val (.int xs), .val (.int (Int32.ofNat cn)), .unset, .unset, .unset, .unset, .unset, .unset, .unset, .unset, .unset] [(.ref b4)])) t → Steps p.tables e below (s₁.setTop (entryFrame m #[(.int xa), (.int xb), (.int xc), (.int xd), (.int xn), (.int xs)] maxLocals)) t := fun t k => pre3 t (st4 t k)
  have pre6 : ∀ t, Steps p.tables e below (T4.setTop (mkF m 24 #[.val (.int xa), .val (.int xb), .val (.int xc), .val (.int xd), .val (.int xn), .val (.int xs), .val (.int (Int32.ofNat cn)), .val (.ref b4), .unset, .unset, .unset, .unset, .unset, .unset, .unset, .unset] [(.int ((xa &&& (2147483647 : Int32)) % (Int32.ofNat cn))), (.int (0 : Int32)), (.ref b4)])) t → Steps p.tables e below (s₁.setTop (entryFrame m #[(.int xa), (.int xb), (.int xc), (.int xd), (.int xn), (.int xs)] maxLocals)) t := fun t k => pre5 t (by
    show Steps p.tables e below (T4.setTop (mkF m 12 #[.val (.int xa), .val (.int xb), .val (.int xc), .val (.int xd), .val (.int xn), .val (.int xs), .val (.int (Int32.ofNat cn)), .unset, .unset, .unset, .unset, .unset, .unset, .unset, .unset, .unset] [(.ref b4)])) _
    refine XS.astore X4.here hx rfl (hb hby at_12) rfl rfl (l' := #[.val (.int xa), .val (.int xb), .val (.int xc), .val (.int xd), .val (.int xn), .val (.int xs), .val (.int (Int32.ofNat cn)), .val (.ref b4), .unset, .unset, .unset, .unset, .unset, .unset, .unset, .unset]) rfl ?_
    refine XS.aload X4.here hx rfl (hb hby at_14) rfl rfl ?_
    refine XS.iconst X4.here hx rfl (hb hby at_16) ?_
    refine XS.iloadN X4.here hx rfl (hb hby at_17) rfl ?_
    refine X4.ldcInt hx hown (mvT hZ (hw _ (List.mem_of_getElem? (i := 1) rfl))) (g := (mkF m 18 #[.val (.int xa), .val (.int xb), .val (.int xc), .val (.int xd), .val (.int xn), .val (.int xs), .val (.int (Int32.ofNat cn)), .val (.ref b4), .unset, .unset, .unset, .unset, .unset, .unset, .unset, .unset] [(.int xa), (.int (0 : Int32)), (.ref b4)])) rfl (hb hby at_18) _ ?_
    refine XS.iand X4.here hx rfl (hb hby at_20) rfl ?_
    refine XS.iload X4.here hx rfl (hb hby at_21) rfl ?_
    show Steps p.tables e below (T4.setTop (mkF m 23 #[.val (.int xa), .val (.int xb), .val (.int xc), .val (.int xd), .val (.int xn), .val (.int xs), .val (.int (Int32.ofNat cn)), .val (.ref b4), .unset, .unset, .unset, .unset, .unset, .unset, .unset, .unset] [(.int (Int32.ofNat cn)), (.int (xa &&& (2147483647 : Int32))), (.int (0 : Int32)), (.ref b4)])) _
    refine iremM X4 hx rfl (hb hby at_23) rfl (by intro q; exact absurd (n_inj (n := 0) q (by omega) (by decide)) (by omega)) ?_
    exact k)
  obtain ⟨y0, hny0, ha0⟩ := own_e xa hc1 hc8
  rw [hny0] at pre6
  obtain ⟨T7, h7, ls7, X7, e7, N7, R7, st7⟩ := gIst X4 hx hZ e4 N0 R4 0 rfl (j := (0 : Int32)) (by decide) (0) rfl (show (0 : Nat) < 4 by decide) (g := (mkF m 24 #[.val (.int xa), .val (.int xb), .val (.int xc), .val (.int xd), .val (.int xn), .val (.int xs), .val (.int (Int32.ofNat cn)), .val (.ref b4), .unset, .unset, .unset, .unset, .unset, .unset, .unset, .unset] [(.int (Int32.ofNat y0)), (.int (0 : Int32)), (.ref b4)])) rfl rfl (hb hby at_24)
  replace R7 : Rep Z n0 h7 ((b4, Ar .int [(.int (Int32.ofNat y0)), (.int (0 : Int32)), (.int (0 : Int32)), (.int (0 : Int32))]) :: []) := R7
  have pre8 : ∀ t, Steps p.tables e below (T7.setTop (mkF m 25 #[.val (.int xa), .val (.int xb), .val (.int xc), .val (.int xd), .val (.int xn), .val (.int xs), .val (.int (Int32.ofNat cn)), .val (.ref b4), .unset, .unset, .unset, .unset, .unset, .unset, .unset, .unset] [])) t → Steps p.tables e below (s₁.setTop (entryFrame m #[(.int xa), (.int xb), (.int xc), (.int xd), (.int xn), (.int xs)] maxLocals)) t := fun t k => pre6 t (st7 t k)
  have pre9 : ∀ t, Steps p.tables e below (T7.setTop (mkF m 35 #[.val (.int xa), .val (.int xb), .val (.int xc), .val (.int xd), .val (.int xn), .val (.int xs), .val (.int (Int32.ofNat cn)), .val (.ref b4), .unset, .unset, .unset, .unset, .unset, .unset, .unset, .unset] [(.int ((xb &&& (2147483647 : Int32)) % (Int32.ofNat cn))), (.int (1 : Int32)), (.ref b4)])) t → Steps p.tables e below (s₁.setTop (entryFrame m #[(.int xa), (.int xb), (.int xc), (.int xd), (.int xn), (.int xs)] maxLocals)) t := fun t k => pre8 t (by
    show Steps p.tables e below (T7.setTop (mkF m 25 #[.val (.int xa), .val (.int xb), .val (.int xc), .val (.int xd), .val (.int xn), .val (.int xs), .val (.int (Int32.ofNat cn)), .val (.ref b4), .unset, .unset, .unset, .unset, .unset, .unset, .unset, .unset] [])) _
    refine XS.aload X7.here hx rfl (hb hby at_25) rfl rfl ?_
    refine XS.iconst X7.here hx rfl (hb hby at_27) ?_
    refine XS.iloadN X7.here hx rfl (hb hby at_28) rfl ?_
    refine X7.ldcInt hx hown (mvT hZ (hw _ (List.mem_of_getElem? (i := 1) rfl))) (g := (mkF m 29 #[.val (.int xa), .val (.int xb), .val (.int xc), .val (.int xd), .val (.int xn), .val (.int xs), .val (.int (Int32.ofNat cn)), .val (.ref b4), .unset, .unset, .unset, .unset, .unset, .unset, .unset, .unset] [(.int xb), (.int (1 : Int32)), (.ref b4)])) rfl (hb hby at_29) _ ?_
    refine XS.iand X7.here hx rfl (hb hby at_31) rfl ?_
    refine XS.iload X7.here hx rfl (hb hby at_32) rfl ?_
    refine iremM X7 hx rfl (hb hby at_34) rfl (by intro q; exact absurd (n_inj (n := 0) q (by omega) (by decide)) (by omega)) ?_
    exact k)
  obtain ⟨y1, hny1, ha1⟩ := own_e xb hc1 hc8
  rw [hny1] at pre9
  obtain ⟨T10, h10, ls10, X10, e10, N10, R10, st10⟩ := gIst X7 hx hZ e7 N7 R7 0 rfl (j := (1 : Int32)) (by decide) (1) rfl (show (1 : Nat) < 4 by decide) (g := (mkF m 35 #[.val (.int xa), .val (.int xb), .val (.int xc), .val (.int xd), .val (.int xn), .val (.int xs), .val (.int (Int32.ofNat cn)), .val (.ref b4), .unset, .unset, .unset, .unset, .unset, .unset, .unset, .unset] [(.int (Int32.ofNat y1)), (.int (1 : Int32)), (.ref b4)])) rfl rfl (hb hby at_35)
  replace R10 : Rep Z n0 h10 ((b4, Ar .int [(.int (Int32.ofNat y0)), (.int (Int32.ofNat y1)), (.int (0 : Int32)), (.int (0 : Int32))]) :: []) := R10
  have pre11 : ∀ t, Steps p.tables e below (T10.setTop (mkF m 36 #[.val (.int xa), .val (.int xb), .val (.int xc), .val (.int xd), .val (.int xn), .val (.int xs), .val (.int (Int32.ofNat cn)), .val (.ref b4), .unset, .unset, .unset, .unset, .unset, .unset, .unset, .unset] [])) t → Steps p.tables e below (s₁.setTop (entryFrame m #[(.int xa), (.int xb), (.int xc), (.int xd), (.int xn), (.int xs)] maxLocals)) t := fun t k => pre9 t (st10 t k)
  have pre12 : ∀ t, Steps p.tables e below (T10.setTop (mkF m 46 #[.val (.int xa), .val (.int xb), .val (.int xc), .val (.int xd), .val (.int xn), .val (.int xs), .val (.int (Int32.ofNat cn)), .val (.ref b4), .unset, .unset, .unset, .unset, .unset, .unset, .unset, .unset] [(.int ((xc &&& (2147483647 : Int32)) % (Int32.ofNat cn))), (.int (2 : Int32)), (.ref b4)])) t → Steps p.tables e below (s₁.setTop (entryFrame m #[(.int xa), (.int xb), (.int xc), (.int xd), (.int xn), (.int xs)] maxLocals)) t := fun t k => pre11 t (by
    show Steps p.tables e below (T10.setTop (mkF m 36 #[.val (.int xa), .val (.int xb), .val (.int xc), .val (.int xd), .val (.int xn), .val (.int xs), .val (.int (Int32.ofNat cn)), .val (.ref b4), .unset, .unset, .unset, .unset, .unset, .unset, .unset, .unset] [])) _
    refine XS.aload X10.here hx rfl (hb hby at_36) rfl rfl ?_
    refine XS.iconst X10.here hx rfl (hb hby at_38) ?_
    refine XS.iloadN X10.here hx rfl (hb hby at_39) rfl ?_
    refine X10.ldcInt hx hown (mvT hZ (hw _ (List.mem_of_getElem? (i := 1) rfl))) (g := (mkF m 40 #[.val (.int xa), .val (.int xb), .val (.int xc), .val (.int xd), .val (.int xn), .val (.int xs), .val (.int (Int32.ofNat cn)), .val (.ref b4), .unset, .unset, .unset, .unset, .unset, .unset, .unset, .unset] [(.int xc), (.int (2 : Int32)), (.ref b4)])) rfl (hb hby at_40) _ ?_
    refine XS.iand X10.here hx rfl (hb hby at_42) rfl ?_
    refine XS.iload X10.here hx rfl (hb hby at_43) rfl ?_
    refine iremM X10 hx rfl (hb hby at_45) rfl (by intro q; exact absurd (n_inj (n := 0) q (by omega) (by decide)) (by omega)) ?_
    exact k)
  obtain ⟨y2, hny2, ha2⟩ := own_e xc hc1 hc8
  rw [hny2] at pre12
  obtain ⟨T13, h13, ls13, X13, e13, N13, R13, st13⟩ := gIst X10 hx hZ e10 N10 R10 0 rfl (j := (2 : Int32)) (by decide) (2) rfl (show (2 : Nat) < 4 by decide) (g := (mkF m 46 #[.val (.int xa), .val (.int xb), .val (.int xc), .val (.int xd), .val (.int xn), .val (.int xs), .val (.int (Int32.ofNat cn)), .val (.ref b4), .unset, .unset, .unset, .unset, .unset, .unset, .unset, .unset] [(.int (Int32.ofNat y2)), (.int (2 : Int32)), (.ref b4)])) rfl rfl (hb hby at_46)
  replace R13 : Rep Z n0 h13 ((b4, Ar .int [(.int (Int32.ofNat y0)), (.int (Int32.ofNat y1)), (.int (Int32.ofNat y2)), (.int (0 : Int32))]) :: []) := R13
  have pre14 : ∀ t, Steps p.tables e below (T13.setTop (mkF m 47 #[.val (.int xa), .val (.int xb), .val (.int xc), .val (.int xd), .val (.int xn), .val (.int xs), .val (.int (Int32.ofNat cn)), .val (.ref b4), .unset, .unset, .unset, .unset, .unset, .unset, .unset, .unset] [])) t → Steps p.tables e below (s₁.setTop (entryFrame m #[(.int xa), (.int xb), (.int xc), (.int xd), (.int xn), (.int xs)] maxLocals)) t := fun t k => pre12 t (st13 t k)
  have pre15 : ∀ t, Steps p.tables e below (T13.setTop (mkF m 57 #[.val (.int xa), .val (.int xb), .val (.int xc), .val (.int xd), .val (.int xn), .val (.int xs), .val (.int (Int32.ofNat cn)), .val (.ref b4), .unset, .unset, .unset, .unset, .unset, .unset, .unset, .unset] [(.int ((xd &&& (2147483647 : Int32)) % (Int32.ofNat cn))), (.int (3 : Int32)), (.ref b4)])) t → Steps p.tables e below (s₁.setTop (entryFrame m #[(.int xa), (.int xb), (.int xc), (.int xd), (.int xn), (.int xs)] maxLocals)) t := fun t k => pre14 t (by
    show Steps p.tables e below (T13.setTop (mkF m 47 #[.val (.int xa), .val (.int xb), .val (.int xc), .val (.int xd), .val (.int xn), .val (.int xs), .val (.int (Int32.ofNat cn)), .val (.ref b4), .unset, .unset, .unset, .unset, .unset, .unset, .unset, .unset] [])) _
    refine XS.aload X13.here hx rfl (hb hby at_47) rfl rfl ?_
    refine XS.iconst X13.here hx rfl (hb hby at_49) ?_
    refine XS.iloadN X13.here hx rfl (hb hby at_50) rfl ?_
    refine X13.ldcInt hx hown (mvT hZ (hw _ (List.mem_of_getElem? (i := 1) rfl))) (g := (mkF m 51 #[.val (.int xa), .val (.int xb), .val (.int xc), .val (.int xd), .val (.int xn), .val (.int xs), .val (.int (Int32.ofNat cn)), .val (.ref b4), .unset, .unset, .unset, .unset, .unset, .unset, .unset, .unset] [(.int xd), (.int (3 : Int32)), (.ref b4)])) rfl (hb hby at_51) _ ?_
    refine XS.iand X13.here hx rfl (hb hby at_53) rfl ?_
    refine XS.iload X13.here hx rfl (hb hby at_54) rfl ?_
    refine iremM X13 hx rfl (hb hby at_56) rfl (by intro q; exact absurd (n_inj (n := 0) q (by omega) (by decide)) (by omega)) ?_
    exact k)
  obtain ⟨y3, hny3, ha3⟩ := own_e xd hc1 hc8
  rw [hny3] at pre15
  obtain ⟨T16, h16, ls16, X16, e16, N16, R16, st16⟩ := gIst X13 hx hZ e13 N13 R13 0 rfl (j := (3 : Int32)) (by decide) (3) rfl (show (3 : Nat) < 4 by decide) (g := (mkF m 57 #[.val (.int xa), .val (.int xb), .val (.int xc), .val (.int xd), .val (.int xn), .val (.int xs), .val (.int (Int32.ofNat cn)), .val (.ref b4), .unset, .unset, .unset, .unset, .unset, .unset, .unset, .unset] [(.int (Int32.ofNat y3)), (.int (3 : Int32)), (.ref b4)])) rfl rfl (hb hby at_57)
  replace R16 : Rep Z n0 h16 ((b4, Ar .int [(.int (Int32.ofNat y0)), (.int (Int32.ofNat y1)), (.int (Int32.ofNat y2)), (.int (Int32.ofNat y3))]) :: []) := R16
  have pre17 : ∀ t, Steps p.tables e below (T16.setTop (mkF m 58 #[.val (.int xa), .val (.int xb), .val (.int xc), .val (.int xd), .val (.int xn), .val (.int xs), .val (.int (Int32.ofNat cn)), .val (.ref b4), .unset, .unset, .unset, .unset, .unset, .unset, .unset, .unset] [])) t → Steps p.tables e below (s₁.setTop (entryFrame m #[(.int xa), (.int xb), (.int xc), (.int xd), (.int xn), (.int xs)] maxLocals)) t := fun t k => pre15 t (st16 t k)
  have pre18 : ∀ t, Steps p.tables e below (T16.setTop (mkF m 59 #[.val (.int xa), .val (.int xb), .val (.int xc), .val (.int xd), .val (.int xn), .val (.int xs), .val (.int (Int32.ofNat cn)), .val (.ref b4), .unset, .unset, .unset, .unset, .unset, .unset, .unset, .unset] [(.int (4 : Int32))])) t → Steps p.tables e below (s₁.setTop (entryFrame m #[(.int xa), (.int xb), (.int xc), (.int xd), (.int xn), (.int xs)] maxLocals)) t := fun t k => pre17 t (by
    show Steps p.tables e below (T16.setTop (mkF m 58 #[.val (.int xa), .val (.int xb), .val (.int xc), .val (.int xd), .val (.int xn), .val (.int xs), .val (.int (Int32.ofNat cn)), .val (.ref b4), .unset, .unset, .unset, .unset, .unset, .unset, .unset, .unset] [])) _
    refine XS.iconst X16.here hx rfl (hb hby at_58) ?_
    exact k)
  obtain ⟨T19, h19, b19, X19, e19, R19, st19⟩ := gNewP X16 hx hZ (hw _ (List.mem_of_getElem? (i := 0) rfl)) e16 R16 (g := (mkF m 59 #[.val (.int xa), .val (.int xb), .val (.int xc), .val (.int xd), .val (.int xn), .val (.int xs), .val (.int (Int32.ofNat cn)), .val (.ref b4), .unset, .unset, .unset, .unset, .unset, .unset, .unset, .unset] [(.int (4 : Int32))])) rfl (hb hby at_59) rfl (by decide) 4 (by decide) (by decide) (by decide) (by decide) (vs := [(.int (0 : Int32)), (.int (0 : Int32)), (.int (0 : Int32)), (.int (0 : Int32))]) rfl
  replace R19 : Rep Z n0 h19 ((b19, Ar .int [(.int (0 : Int32)), (.int (0 : Int32)), (.int (0 : Int32)), (.int (0 : Int32))]) :: (b4, Ar .int [(.int (Int32.ofNat y0)), (.int (Int32.ofNat y1)), (.int (Int32.ofNat y2)), (.int (Int32.ofNat y3))]) :: []) := R19
  have pre20 : ∀ t, Steps p.tables e below (T19.setTop (mkF m 61 #[.val (.int xa), .val (.int xb), .val (.int xc), .val (.int xd), .val (.int xn), .val (.int xs), .val (.int (Int32.ofNat cn)), .val (.ref b4), .unset, .unset, .unset, .unset, .unset, .unset, .unset, .unset] [(.ref b19)])) t → Steps p.tables e below (s₁.setTop (entryFrame m #[(.int xa), (.int xb), (.int xc), (.int xd), (.int xn), (.int xs)] maxLocals)) t := fun t k => pre18 t (st19 t k)
  have pre21 : ∀ t, Steps p.tables e below (T19.setTop (mkF m 70 #[.val (.int xa), .val (.int xb), .val (.int xc), .val (.int xd), .val (.int xn), .val (.int xs), .val (.int (Int32.ofNat cn)), .val (.ref b4), .val (.ref b19), .unset, .unset, .unset, .unset, .unset, .unset, .unset] [(.int (Int32.ofNat y0)), (.int (0 : Int32)), (.ref b19)])) t → Steps p.tables e below (s₁.setTop (entryFrame m #[(.int xa), (.int xb), (.int xc), (.int xd), (.int xn), (.int xs)] maxLocals)) t := fun t k => pre20 t (by
    show Steps p.tables e below (T19.setTop (mkF m 61 #[.val (.int xa), .val (.int xb), .val (.int xc), .val (.int xd), .val (.int xn), .val (.int xs), .val (.int (Int32.ofNat cn)), .val (.ref b4), .unset, .unset, .unset, .unset, .unset, .unset, .unset, .unset] [(.ref b19)])) _
    refine XS.astore X19.here hx rfl (hb hby at_61) rfl rfl (l' := #[.val (.int xa), .val (.int xb), .val (.int xc), .val (.int xd), .val (.int xn), .val (.int xs), .val (.int (Int32.ofNat cn)), .val (.ref b4), .val (.ref b19), .unset, .unset, .unset, .unset, .unset, .unset, .unset]) rfl ?_
    refine XS.aload X19.here hx rfl (hb hby at_63) rfl rfl ?_
    refine XS.iconst X19.here hx rfl (hb hby at_65) ?_
    refine XS.aload X19.here hx rfl (hb hby at_66) rfl rfl ?_
    refine XS.iconst X19.here hx rfl (hb hby at_68) ?_
    refine gIald X19 hx hZ e19 R19 1 rfl (j := (0 : Int32)) (v := (.int (Int32.ofNat y0))) (by decide) rfl (g := (mkF m 69 #[.val (.int xa), .val (.int xb), .val (.int xc), .val (.int xd), .val (.int xn), .val (.int xs), .val (.int (Int32.ofNat cn)), .val (.ref b4), .val (.ref b19), .unset, .unset, .unset, .unset, .unset, .unset, .unset] [(.int (0 : Int32)), (.ref b4), (.int (0 : Int32)), (.ref b19)])) rfl rfl (hb hby at_69) _ ?_
    exact k)
  obtain ⟨T22, h22, ls22, X22, e22, N22, R22, st22⟩ := gIst X19 hx hZ e19 N16 R19 0 rfl (j := (0 : Int32)) (by decide) (0) rfl (show (0 : Nat) < 4 by decide) (g := (mkF m 70 #[.val (.int xa), .val (.int xb), .val (.int xc), .val (.int xd), .val (.int xn), .val (.int xs), .val (.int (Int32.ofNat cn)), .val (.ref b4), .val (.ref b19), .unset, .unset, .unset, .unset, .unset, .unset, .unset] [(.int (Int32.ofNat y0)), (.int (0 : Int32)), (.ref b19)])) rfl rfl (hb hby at_70)
  replace R22 : Rep Z n0 h22 ((b19, Ar .int [(.int (Int32.ofNat y0)), (.int (0 : Int32)), (.int (0 : Int32)), (.int (0 : Int32))]) :: (b4, Ar .int [(.int (Int32.ofNat y0)), (.int (Int32.ofNat y1)), (.int (Int32.ofNat y2)), (.int (Int32.ofNat y3))]) :: []) := R22
  have pre23 : ∀ t, Steps p.tables e below (T22.setTop (mkF m 71 #[.val (.int xa), .val (.int xb), .val (.int xc), .val (.int xd), .val (.int xn), .val (.int xs), .val (.int (Int32.ofNat cn)), .val (.ref b4), .val (.ref b19), .unset, .unset, .unset, .unset, .unset, .unset, .unset] [])) t → Steps p.tables e below (s₁.setTop (entryFrame m #[(.int xa), (.int xb), (.int xc), (.int xd), (.int xn), (.int xs)] maxLocals)) t := fun t k => pre21 t (st22 t k)
  have pre24 : ∀ t, Steps p.tables e below (T22.setTop (mkF m 78 #[.val (.int xa), .val (.int xb), .val (.int xc), .val (.int xd), .val (.int xn), .val (.int xs), .val (.int (Int32.ofNat cn)), .val (.ref b4), .val (.ref b19), .unset, .unset, .unset, .unset, .unset, .unset, .unset] [(.int (Int32.ofNat y1)), (.int (1 : Int32)), (.ref b19)])) t → Steps p.tables e below (s₁.setTop (entryFrame m #[(.int xa), (.int xb), (.int xc), (.int xd), (.int xn), (.int xs)] maxLocals)) t := fun t k => pre23 t (by
    show Steps p.tables e below (T22.setTop (mkF m 71 #[.val (.int xa), .val (.int xb), .val (.int xc), .val (.int xd), .val (.int xn), .val (.int xs), .val (.int (Int32.ofNat cn)), .val (.ref b4), .val (.ref b19), .unset, .unset, .unset, .unset, .unset, .unset, .unset] [])) _
    refine XS.aload X22.here hx rfl (hb hby at_71) rfl rfl ?_
    refine XS.iconst X22.here hx rfl (hb hby at_73) ?_
    refine XS.aload X22.here hx rfl (hb hby at_74) rfl rfl ?_
    refine XS.iconst X22.here hx rfl (hb hby at_76) ?_
    refine gIald X22 hx hZ e22 R22 1 rfl (j := (1 : Int32)) (v := (.int (Int32.ofNat y1))) (by decide) rfl (g := (mkF m 77 #[.val (.int xa), .val (.int xb), .val (.int xc), .val (.int xd), .val (.int xn), .val (.int xs), .val (.int (Int32.ofNat cn)), .val (.ref b4), .val (.ref b19), .unset, .unset, .unset, .unset, .unset, .unset, .unset] [(.int (1 : Int32)), (.ref b4), (.int (1 : Int32)), (.ref b19)])) rfl rfl (hb hby at_77) _ ?_
    exact k)
  obtain ⟨T25, h25, ls25, X25, e25, N25, R25, st25⟩ := gIst X22 hx hZ e22 N22 R22 0 rfl (j := (1 : Int32)) (by decide) (1) rfl (show (1 : Nat) < 4 by decide) (g := (mkF m 78 #[.val (.int xa), .val (.int xb), .val (.int xc), .val (.int xd), .val (.int xn), .val (.int xs), .val (.int (Int32.ofNat cn)), .val (.ref b4), .val (.ref b19), .unset, .unset, .unset, .unset, .unset, .unset, .unset] [(.int (Int32.ofNat y1)), (.int (1 : Int32)), (.ref b19)])) rfl rfl (hb hby at_78)
  replace R25 : Rep Z n0 h25 ((b19, Ar .int [(.int (Int32.ofNat y0)), (.int (Int32.ofNat y1)), (.int (0 : Int32)), (.int (0 : Int32))]) :: (b4, Ar .int [(.int (Int32.ofNat y0)), (.int (Int32.ofNat y1)), (.int (Int32.ofNat y2)), (.int (Int32.ofNat y3))]) :: []) := R25
  have pre26 : ∀ t, Steps p.tables e below (T25.setTop (mkF m 79 #[.val (.int xa), .val (.int xb), .val (.int xc), .val (.int xd), .val (.int xn), .val (.int xs), .val (.int (Int32.ofNat cn)), .val (.ref b4), .val (.ref b19), .unset, .unset, .unset, .unset, .unset, .unset, .unset] [])) t → Steps p.tables e below (s₁.setTop (entryFrame m #[(.int xa), (.int xb), (.int xc), (.int xd), (.int xn), (.int xs)] maxLocals)) t := fun t k => pre24 t (st25 t k)
  have pre27 : ∀ t, Steps p.tables e below (T25.setTop (mkF m 86 #[.val (.int xa), .val (.int xb), .val (.int xc), .val (.int xd), .val (.int xn), .val (.int xs), .val (.int (Int32.ofNat cn)), .val (.ref b4), .val (.ref b19), .unset, .unset, .unset, .unset, .unset, .unset, .unset] [(.int (Int32.ofNat y2)), (.int (2 : Int32)), (.ref b19)])) t → Steps p.tables e below (s₁.setTop (entryFrame m #[(.int xa), (.int xb), (.int xc), (.int xd), (.int xn), (.int xs)] maxLocals)) t := fun t k => pre26 t (by
    show Steps p.tables e below (T25.setTop (mkF m 79 #[.val (.int xa), .val (.int xb), .val (.int xc), .val (.int xd), .val (.int xn), .val (.int xs), .val (.int (Int32.ofNat cn)), .val (.ref b4), .val (.ref b19), .unset, .unset, .unset, .unset, .unset, .unset, .unset] [])) _
    refine XS.aload X25.here hx rfl (hb hby at_79) rfl rfl ?_
    refine XS.iconst X25.here hx rfl (hb hby at_81) ?_
    refine XS.aload X25.here hx rfl (hb hby at_82) rfl rfl ?_
    refine XS.iconst X25.here hx rfl (hb hby at_84) ?_
    refine gIald X25 hx hZ e25 R25 1 rfl (j := (2 : Int32)) (v := (.int (Int32.ofNat y2))) (by decide) rfl (g := (mkF m 85 #[.val (.int xa), .val (.int xb), .val (.int xc), .val (.int xd), .val (.int xn), .val (.int xs), .val (.int (Int32.ofNat cn)), .val (.ref b4), .val (.ref b19), .unset, .unset, .unset, .unset, .unset, .unset, .unset] [(.int (2 : Int32)), (.ref b4), (.int (2 : Int32)), (.ref b19)])) rfl rfl (hb hby at_85) _ ?_
    exact k)
  obtain ⟨T28, h28, ls28, X28, e28, N28, R28, st28⟩ := gIst X25 hx hZ e25 N25 R25 0 rfl (j := (2 : Int32)) (by decide) (2) rfl (show (2 : Nat) < 4 by decide) (g := (mkF m 86 #[.val (.int xa), .val (.int xb), .val (.int xc), .val (.int xd), .val (.int xn), .val (.int xs), .val (.int (Int32.ofNat cn)), .val (.ref b4), .val (.ref b19), .unset, .unset, .unset, .unset, .unset, .unset, .unset] [(.int (Int32.ofNat y2)), (.int (2 : Int32)), (.ref b19)])) rfl rfl (hb hby at_86)
  replace R28 : Rep Z n0 h28 ((b19, Ar .int [(.int (Int32.ofNat y0)), (.int (Int32.ofNat y1)), (.int (Int32.ofNat y2)), (.int (0 : Int32))]) :: (b4, Ar .int [(.int (Int32.ofNat y0)), (.int (Int32.ofNat y1)), (.int (Int32.ofNat y2)), (.int (Int32.ofNat y3))]) :: []) := R28
  have pre29 : ∀ t, Steps p.tables e below (T28.setTop (mkF m 87 #[.val (.int xa), .val (.int xb), .val (.int xc), .val (.int xd), .val (.int xn), .val (.int xs), .val (.int (Int32.ofNat cn)), .val (.ref b4), .val (.ref b19), .unset, .unset, .unset, .unset, .unset, .unset, .unset] [])) t → Steps p.tables e below (s₁.setTop (entryFrame m #[(.int xa), (.int xb), (.int xc), (.int xd), (.int xn), (.int xs)] maxLocals)) t := fun t k => pre27 t (st28 t k)
  have pre30 : ∀ t, Steps p.tables e below (T28.setTop (mkF m 94 #[.val (.int xa), .val (.int xb), .val (.int xc), .val (.int xd), .val (.int xn), .val (.int xs), .val (.int (Int32.ofNat cn)), .val (.ref b4), .val (.ref b19), .unset, .unset, .unset, .unset, .unset, .unset, .unset] [(.int (Int32.ofNat y3)), (.int (3 : Int32)), (.ref b19)])) t → Steps p.tables e below (s₁.setTop (entryFrame m #[(.int xa), (.int xb), (.int xc), (.int xd), (.int xn), (.int xs)] maxLocals)) t := fun t k => pre29 t (by
    show Steps p.tables e below (T28.setTop (mkF m 87 #[.val (.int xa), .val (.int xb), .val (.int xc), .val (.int xd), .val (.int xn), .val (.int xs), .val (.int (Int32.ofNat cn)), .val (.ref b4), .val (.ref b19), .unset, .unset, .unset, .unset, .unset, .unset, .unset] [])) _
    refine XS.aload X28.here hx rfl (hb hby at_87) rfl rfl ?_
    refine XS.iconst X28.here hx rfl (hb hby at_89) ?_
    refine XS.aload X28.here hx rfl (hb hby at_90) rfl rfl ?_
    refine XS.iconst X28.here hx rfl (hb hby at_92) ?_
    refine gIald X28 hx hZ e28 R28 1 rfl (j := (3 : Int32)) (v := (.int (Int32.ofNat y3))) (by decide) rfl (g := (mkF m 93 #[.val (.int xa), .val (.int xb), .val (.int xc), .val (.int xd), .val (.int xn), .val (.int xs), .val (.int (Int32.ofNat cn)), .val (.ref b4), .val (.ref b19), .unset, .unset, .unset, .unset, .unset, .unset, .unset] [(.int (3 : Int32)), (.ref b4), (.int (3 : Int32)), (.ref b19)])) rfl rfl (hb hby at_93) _ ?_
    exact k)
  obtain ⟨T31, h31, ls31, X31, e31, N31, R31, st31⟩ := gIst X28 hx hZ e28 N28 R28 0 rfl (j := (3 : Int32)) (by decide) (3) rfl (show (3 : Nat) < 4 by decide) (g := (mkF m 94 #[.val (.int xa), .val (.int xb), .val (.int xc), .val (.int xd), .val (.int xn), .val (.int xs), .val (.int (Int32.ofNat cn)), .val (.ref b4), .val (.ref b19), .unset, .unset, .unset, .unset, .unset, .unset, .unset] [(.int (Int32.ofNat y3)), (.int (3 : Int32)), (.ref b19)])) rfl rfl (hb hby at_94)
  replace R31 : Rep Z n0 h31 ((b19, Ar .int [(.int (Int32.ofNat y0)), (.int (Int32.ofNat y1)), (.int (Int32.ofNat y2)), (.int (Int32.ofNat y3))]) :: (b4, Ar .int [(.int (Int32.ofNat y0)), (.int (Int32.ofNat y1)), (.int (Int32.ofNat y2)), (.int (Int32.ofNat y3))]) :: []) := R31
  have pre32 : ∀ t, Steps p.tables e below (T31.setTop (mkF m 95 #[.val (.int xa), .val (.int xb), .val (.int xc), .val (.int xd), .val (.int xn), .val (.int xs), .val (.int (Int32.ofNat cn)), .val (.ref b4), .val (.ref b19), .unset, .unset, .unset, .unset, .unset, .unset, .unset] [])) t → Steps p.tables e below (s₁.setTop (entryFrame m #[(.int xa), (.int xb), (.int xc), (.int xd), (.int xn), (.int xs)] maxLocals)) t := fun t k => pre30 t (st31 t k)
  have RN : Rep Z n0 h31 ((b19, Ar .int (nl [y0, y1, y2, y3])) :: (b4, Ar .int (nl [y0, y1, y2, y3])) :: []) := R31
  obtain ⟨hA, hB⟩ := own_at hc1 hc8 ha0 ha1 ha2 ha3
  have hp := okA.parts hA
  obtain ⟨T33, h33, b33, X33, e33, R33, st33⟩ := gNew X31 hx hZ hown (hw _ (List.mem_of_getElem? (i := 2) rfl)) (hw _ (List.mem_of_getElem? (i := 3) rfl)) (hw _ (List.mem_of_getElem? (i := 4) rfl)) e31 RN (fs := [("elements", "[I", .null), ("location", "[I", .null), ("blockOf", "[I", .null), ("start", "[I", .null), ("end", "[I", .null), ("marked", "[I", .null), ("touched", "[I", .null), ("blocks", "I", (.int (0 : Int32))), ("touchedCount", "I", (.int (0 : Int32)))]) ⟨⟨Or.inr (hw _ (List.mem_of_getElem? (i := 16) rfl)), (.array .int), by decide, rfl⟩, ⟨⟨Or.inr (hw _ (List.mem_of_getElem? (i := 18) rfl)), (.array .int), by decide, rfl⟩, ⟨⟨Or.inr (hw _ (List.mem_of_getElem? (i := 29) rfl)), (.array .int), by decide, rfl⟩, ⟨⟨Or.inr (hw _ (List.mem_of_getElem? (i := 31) rfl)), (.array .int), by decide, rfl⟩, ⟨⟨Or.inr (hw _ (List.mem_of_getElem? (i := 33) rfl)), (.array .int), by decide, rfl⟩, ⟨⟨Or.inr (hw _ (List.mem_of_getElem? (i := 35) rfl)), (.array .int), by decide, rfl⟩, ⟨⟨Or.inr (hw _ (List.mem_of_getElem? (i := 37) rfl)), (.array .int), by decide, rfl⟩, ⟨⟨Or.inl (hw _ (List.mem_of_getElem? (i := 39) rfl)), .int, by decide, rfl⟩, ⟨⟨Or.inl (hw _ (List.mem_of_getElem? (i := 57) rfl)), .int, by decide, rfl⟩, trivial⟩⟩⟩⟩⟩⟩⟩⟩⟩ (by decide) (g := (mkF m 95 #[.val (.int xa), .val (.int xb), .val (.int xc), .val (.int xd), .val (.int xn), .val (.int xs), .val (.int (Int32.ofNat cn)), .val (.ref b4), .val (.ref b19), .unset, .unset, .unset, .unset, .unset, .unset, .unset] [])) rfl (hb hby at_95) (by decide) (by decide)
  have pre34 : ∀ t, Steps p.tables e below (T33.setTop (mkF m 98 #[.val (.int xa), .val (.int xb), .val (.int xc), .val (.int xd), .val (.int xn), .val (.int xs), .val (.int (Int32.ofNat cn)), .val (.ref b4), .val (.ref b19), .unset, .unset, .unset, .unset, .unset, .unset, .unset] [(.ref b33)])) t → Steps p.tables e below (s₁.setTop (entryFrame m #[(.int xa), (.int xb), (.int xc), (.int xd), (.int xn), (.int xs)] maxLocals)) t := fun t k => pre32 t (st33 t k)
  have pre35 : ∀ t, Steps p.tables e below (T33.setTop (mkF m 103 #[.val (.int xa), .val (.int xb), .val (.int xc), .val (.int xd), .val (.int xn), .val (.int xs), .val (.int (Int32.ofNat cn)), .val (.ref b4), .val (.ref b19), .unset, .unset, .unset, .unset, .unset, .unset, .unset] [(.int (Int32.ofNat cn)), (.ref b19), (.ref b33), (.ref b33)])) t → Steps p.tables e below (s₁.setTop (entryFrame m #[(.int xa), (.int xb), (.int xc), (.int xd), (.int xn), (.int xs)] maxLocals)) t := fun t k => pre34 t (by
    show Steps p.tables e below (T33.setTop (mkF m 98 #[.val (.int xa), .val (.int xb), .val (.int xc), .val (.int xd), .val (.int xn), .val (.int xs), .val (.int (Int32.ofNat cn)), .val (.ref b4), .val (.ref b19), .unset, .unset, .unset, .unset, .unset, .unset, .unset] [(.ref b33)])) _
    refine XS.dup X33.here hx rfl (hb hby at_98) rfl rfl ?_
    refine XS.aload X33.here hx rfl (hb hby at_99) rfl rfl ?_
    refine XS.iload X33.here hx rfl (hb hby at_101) rfl ?_
    exact k)
  obtain ⟨_, _, ⟨T36, L36, k36, n36⟩, -, X36, ⟨Lc36, hQ36, l36, y36, z36⟩, st36⟩ := X33.specialBack hx (y := (⟨"com/example/witgen/witgen/regex/Partition", "<init>", "([II)V"⟩ : MethodName)) rfl hown (mvT hZ (hw _ (List.mem_of_getElem? (i := 5) rfl))) (mvT hZ (hw _ (List.mem_of_getElem? (i := 6) rfl))) (mvT hZ (hw _ (List.mem_of_getElem? (i := 7) rfl))) (by decide) (backOf (W := 1) (rm1 l Z a0 hw [] b33 b19 cn _ _ _ _ _ _ _ _ _ h33 n0 _ R33 (show (4 : Nat) ≤ 4 by decide) (hc8) (hc1) (hp.1)) hZ (hw _ (List.mem_of_getElem? (i := 7) rfl)) (hw _ (List.mem_of_getElem? (i := 4) rfl)) (by decide) (by decide)) (g := (mkF m 103 #[.val (.int xa), .val (.int xb), .val (.int xc), .val (.int xd), .val (.int xn), .val (.int xs), .val (.int (Int32.ofNat cn)), .val (.ref b4), .val (.ref b19), .unset, .unset, .unset, .unset, .unset, .unset, .unset] [(.int (Int32.ofNat cn)), (.ref b19), (.ref b33), (.ref b33)])) rfl (by rw [hml]; rfl) (Steps.refl _) (a := b33) (argsL := [(.ref b19), (.int (Int32.ofNat cn))]) (rest := [(.ref b33)]) (lenOf pd__28_5bII_29V rfl) rfl (by show 2 * 0 + _ ≤ _; exact Nat.le_of_eq rfl) (hb hby at_103) (fun _ _ => ⟨rfl, e33, (by decide : 3 + 8 ≤ _), (by decide : 17 + 52 ≤ _)⟩)
  dsimp only [Pt.U, Pt.locs, Pt.cells, Pt.slots] at X36 l36 y36 z36 st36 hQ36
  subst y36 z36
  obtain ⟨b136, b236, b336, b436, b536, b636, b736, rfl, N36q, R36⟩ := hQ36
  have N36 : Fr n0 L36 := by rw [l36]; exact Fr.app N31 N36q
  replace R36 : Rep Z n0 T36.heap ((b33, Obj "com/example/witgen/witgen/regex/Partition" [("elements", "[I", (.ref b136)), ("location", "[I", (.ref b236)), ("blockOf", "[I", (.ref b336)), ("start", "[I", (.ref b436)), ("end", "[I", (.ref b536)), ("marked", "[I", (.ref b636)), ("touched", "[I", (.ref b736)), ("blocks", "I", (.int (Int32.ofNat cn))), ("touchedCount", "I", (.int (0 : Int32)))]) :: (b136, Ar .int (nl (pS4 [y0, y1, y2, y3] cn).1)) :: (b236, Ar .int (nl (pS4 [y0, y1, y2, y3] cn).2.1)) :: (b336, Ar .int (nl [y0, y1, y2, y3])) :: (b436, Ar .int (nl (pSt [y0, y1, y2, y3] cn))) :: (b536, Ar .int (nl (pEn [y0, y1, y2, y3] cn))) :: (b636, Ar .int (nl (List.replicate (max [y0, y1, y2, y3].length cn) 0))) :: (b736, Ar .int (nl (List.replicate (max [y0, y1, y2, y3].length cn) 0))) :: (b19, Ar .int (nl [y0, y1, y2, y3])) :: (b4, Ar .int (nl [y0, y1, y2, y3])) :: []) := R36
  have pre37 : ∀ t, Steps p.tables e below (T36.setTop (mkF m 106 #[.val (.int xa), .val (.int xb), .val (.int xc), .val (.int xd), .val (.int xn), .val (.int xs), .val (.int (Int32.ofNat cn)), .val (.ref b4), .val (.ref b19), .unset, .unset, .unset, .unset, .unset, .unset, .unset] [(.ref b33)])) t → Steps p.tables e below (s₁.setTop (entryFrame m #[(.int xa), (.int xb), (.int xc), (.int xd), (.int xn), (.int xs)] maxLocals)) t := fun t k => pre35 t (st36.trans k)
  have pre40 : ∀ t, Steps p.tables e below (T36.setTop (mkF m 112 #[.val (.int xa), .val (.int xb), .val (.int xc), .val (.int xd), .val (.int xn), .val (.int xs), .val (.int (Int32.ofNat cn)), .val (.ref b4), .val (.ref b19), .val (.ref b33), .unset, .unset, .unset, .unset, .unset, .unset] [(.int (xs &&& (1 : Int32)))])) t → Steps p.tables e below (s₁.setTop (entryFrame m #[(.int xa), (.int xb), (.int xc), (.int xd), (.int xn), (.int xs)] maxLocals)) t := fun t k => pre37 t (by
    show Steps p.tables e below (T36.setTop (mkF m 106 #[.val (.int xa), .val (.int xb), .val (.int xc), .val (.int xd), .val (.int xn), .val (.int xs), .val (.int (Int32.ofNat cn)), .val (.ref b4), .val (.ref b19), .unset, .unset, .unset, .unset, .unset, .unset, .unset] [(.ref b33)])) _
    refine XS.astore X36.here hx rfl (hb hby at_106) rfl rfl (l' := #[.val (.int xa), .val (.int xb), .val (.int xc), .val (.int xd), .val (.int xn), .val (.int xs), .val (.int (Int32.ofNat cn)), .val (.ref b4), .val (.ref b19), .val (.ref b33), .unset, .unset, .unset, .unset, .unset, .unset]) rfl ?_
    refine XS.iload X36.here hx rfl (hb hby at_108) rfl ?_
    refine XS.iconst X36.here hx rfl (hb hby at_110) ?_
    refine XS.iand X36.here hx rfl (hb hby at_111) rfl ?_
    exact k)
  have tl39 : ∀ t, Steps p.tables e below (T36.setTop (mkF m 120 #[.val (.int xa), .val (.int xb), .val (.int xc), .val (.int xd), .val (.int xn), .val (.int xs), .val (.int (Int32.ofNat cn)), .val (.ref b4), .val (.ref b19), .val (.ref b33), .unset, .unset, .unset, .unset, .unset, .unset] [(.int (bz (¬ ((xs &&& (1 : Int32)) = (0 : Int32)))))])) t → Steps p.tables e below (T36.setTop (mkF m 112 #[.val (.int xa), .val (.int xb), .val (.int xc), .val (.int xd), .val (.int xn), .val (.int xs), .val (.int (Int32.ofNat cn)), .val (.ref b4), .val (.ref b19), .val (.ref b33), .unset, .unset, .unset, .unset, .unset, .unset] [(.int (xs &&& (1 : Int32)))])) t := fun t k => by
    by_cases hb38 : (xs &&& (1 : Int32)) = (0 : Int32)
    · refine XS.ifYes X36.here hx rfl (pc0 := 112) (pc' := 119) rfl (hb hby at_112) rfl ((if0 _ _).trans (teq hb38).1) (by decide) (by decide) ?_
      rw [bz_zero (P := (¬ ((xs &&& (1 : Int32)) = (0 : Int32)))) (iff_false_intro (not_not_intro hb38))] at k
      show Steps p.tables e below (T36.setTop (mkF m 119 #[.val (.int xa), .val (.int xb), .val (.int xc), .val (.int xd), .val (.int xn), .val (.int xs), .val (.int (Int32.ofNat cn)), .val (.ref b4), .val (.ref b19), .val (.ref b33), .unset, .unset, .unset, .unset, .unset, .unset] [])) _
      refine XS.iconst X36.here hx rfl (hb hby at_119) ?_
      exact k
    · refine XS.ifNo X36.here hx rfl (hb hby at_112) rfl ((if0 _ _).trans (feq hb38).1) ?_
      rw [bz_one (P := (¬ ((xs &&& (1 : Int32)) = (0 : Int32)))) (iff_true_intro hb38)] at k
      show Steps p.tables e below (T36.setTop (mkF m 115 #[.val (.int xa), .val (.int xb), .val (.int xc), .val (.int xd), .val (.int xn), .val (.int xs), .val (.int (Int32.ofNat cn)), .val (.ref b4), .val (.ref b19), .val (.ref b33), .unset, .unset, .unset, .unset, .unset, .unset] [])) _
      refine XS.iconst X36.here hx rfl (hb hby at_115) ?_
      refine XS.goto X36.here hx rfl (pc0 := 116) (pc' := 120) rfl (hb hby at_116) (by decide) (by decide) ?_
      exact k
  have pre41 : ∀ t, Steps p.tables e below (T36.setTop (mkF m 120 #[.val (.int xa), .val (.int xb), .val (.int xc), .val (.int xd), .val (.int xn), .val (.int xs), .val (.int (Int32.ofNat cn)), .val (.ref b4), .val (.ref b19), .val (.ref b33), .unset, .unset, .unset, .unset, .unset, .unset] [(.int (bz (¬ ((xs &&& (1 : Int32)) = (0 : Int32)))))])) t → Steps p.tables e below (s₁.setTop (entryFrame m #[(.int xa), (.int xb), (.int xc), (.int xd), (.int xn), (.int xs)] maxLocals)) t := fun t k => pre40 t (by
    exact tl39 t k)
  have pre43 : ∀ t, Steps p.tables e below (T36.setTop (mkF m 130 #[.val (.int xa), .val (.int xb), .val (.int xc), .val (.int xd), .val (.int xn), .val (.int xs), .val (.int (Int32.ofNat cn)), .val (.ref b4), .val (.ref b19), .val (.ref b33), .val (.int (bz (¬ ((xs &&& (1 : Int32)) = (0 : Int32))))), .val (.int ((iushr xs (1 : Int32)) &&& (3 : Int32))), .unset, .unset, .unset, .unset] [])) t → Steps p.tables e below (s₁.setTop (entryFrame m #[(.int xa), (.int xb), (.int xc), (.int xd), (.int xn), (.int xs)] maxLocals)) t := fun t k => pre41 t (by
    show Steps p.tables e below (T36.setTop (mkF m 120 #[.val (.int xa), .val (.int xb), .val (.int xc), .val (.int xd), .val (.int xn), .val (.int xs), .val (.int (Int32.ofNat cn)), .val (.ref b4), .val (.ref b19), .val (.ref b33), .unset, .unset, .unset, .unset, .unset, .unset] [(.int (bz (¬ ((xs &&& (1 : Int32)) = (0 : Int32)))))])) _
    refine XS.istore X36.here hx rfl (hb hby at_120) rfl (l' := #[.val (.int xa), .val (.int xb), .val (.int xc), .val (.int xd), .val (.int xn), .val (.int xs), .val (.int (Int32.ofNat cn)), .val (.ref b4), .val (.ref b19), .val (.ref b33), .val (.int (bz (¬ ((xs &&& (1 : Int32)) = (0 : Int32))))), .unset, .unset, .unset, .unset, .unset]) rfl ?_
    refine XS.iload X36.here hx rfl (hb hby at_122) rfl ?_
    refine XS.iconst X36.here hx rfl (hb hby at_124) ?_
    refine XS.iushr X36.here hx rfl (hb hby at_125) rfl ?_
    refine XS.iconst X36.here hx rfl (hb hby at_126) ?_
    refine XS.iand X36.here hx rfl (hb hby at_127) rfl ?_
    refine XS.istore X36.here hx rfl (hb hby at_128) rfl (l' := #[.val (.int xa), .val (.int xb), .val (.int xc), .val (.int xd), .val (.int xn), .val (.int xs), .val (.int (Int32.ofNat cn)), .val (.ref b4), .val (.ref b19), .val (.ref b33), .val (.int (bz (¬ ((xs &&& (1 : Int32)) = (0 : Int32))))), .val (.int ((iushr xs (1 : Int32)) &&& (3 : Int32))), .unset, .unset, .unset, .unset]) rfl ?_
    exact k)
  obtain ⟨v42, hv42⟩ : ∃ z : Int32, z = ((iushr xs (1 : Int32)) &&& (3 : Int32)) := ⟨_, rfl⟩
  rw [← hv42] at pre43
  obtain ⟨mn, hnmn, hm4⟩ := own_m hv42
  rw [hnmn] at pre43
  have pre44 : ∀ t, Steps p.tables e below (T36.setTop (mkF m 132 #[.val (.int xa), .val (.int xb), .val (.int xc), .val (.int xd), .val (.int xn), .val (.int xs), .val (.int (Int32.ofNat cn)), .val (.ref b4), .val (.ref b19), .val (.ref b33), .val (.int (bz (¬ ((xs &&& (1 : Int32)) = (0 : Int32))))), .val (.int (Int32.ofNat mn)), .unset, .unset, .unset, .unset] [(.int (bz (¬ ((xs &&& (1 : Int32)) = (0 : Int32)))))])) t → Steps p.tables e below (s₁.setTop (entryFrame m #[(.int xa), (.int xb), (.int xc), (.int xd), (.int xn), (.int xs)] maxLocals)) t := fun t k => pre43 t (by
    show Steps p.tables e below (T36.setTop (mkF m 130 #[.val (.int xa), .val (.int xb), .val (.int xc), .val (.int xd), .val (.int xn), .val (.int xs), .val (.int (Int32.ofNat cn)), .val (.ref b4), .val (.ref b19), .val (.ref b33), .val (.int (bz (¬ ((xs &&& (1 : Int32)) = (0 : Int32))))), .val (.int (Int32.ofNat mn)), .unset, .unset, .unset, .unset] [])) _
    refine XS.iload X36.here hx rfl (hb hby at_130) rfl ?_
    exact k)
  by_cases hmk : (¬ ((xs &&& (1 : Int32)) = (0 : Int32)))
  · have pre45 : ∀ t, Steps p.tables e below (T36.setTop (mkF m 135 #[.val (.int xa), .val (.int xb), .val (.int xc), .val (.int xd), .val (.int xn), .val (.int xs), .val (.int (Int32.ofNat cn)), .val (.ref b4), .val (.ref b19), .val (.ref b33), .val (.int (bz (¬ ((xs &&& (1 : Int32)) = (0 : Int32))))), .val (.int (Int32.ofNat mn)), .unset, .unset, .unset, .unset] [])) t → Steps p.tables e below (s₁.setTop (entryFrame m #[(.int xa), (.int xb), (.int xc), (.int xd), (.int xn), (.int xs)] maxLocals)) t := fun t k => pre44 t (by show Steps p.tables e below (T36.setTop (mkF m 132 #[.val (.int xa), .val (.int xb), .val (.int xc), .val (.int xd), .val (.int xn), .val (.int xs), .val (.int (Int32.ofNat cn)), .val (.ref b4), .val (.ref b19), .val (.ref b33), .val (.int (bz (¬ ((xs &&& (1 : Int32)) = (0 : Int32))))), .val (.int (Int32.ofNat mn)), .unset, .unset, .unset, .unset] [(.int (bz (¬ ((xs &&& (1 : Int32)) = (0 : Int32)))))])) _; refine XS.ifNo X36.here hx rfl (hb hby at_132) rfl (ow_beq_f hmk) ?_; exact k)
    have pre46 : ∀ t, Steps p.tables e below (T36.setTop (mkF m 139 #[.val (.int xa), .val (.int xb), .val (.int xc), .val (.int xd), .val (.int xn), .val (.int xs), .val (.int (Int32.ofNat cn)), .val (.ref b4), .val (.ref b19), .val (.ref b33), .val (.int (bz (¬ ((xs &&& (1 : Int32)) = (0 : Int32))))), .val (.int (Int32.ofNat mn)), .unset, .unset, .unset, .unset] [(.int (Int32.ofNat mn)), (.ref b33)])) t → Steps p.tables e below (s₁.setTop (entryFrame m #[(.int xa), (.int xb), (.int xc), (.int xd), (.int xn), (.int xs)] maxLocals)) t := fun t k => pre45 t (by
      show Steps p.tables e below (T36.setTop (mkF m 135 #[.val (.int xa), .val (.int xb), .val (.int xc), .val (.int xd), .val (.int xn), .val (.int xs), .val (.int (Int32.ofNat cn)), .val (.ref b4), .val (.ref b19), .val (.ref b33), .val (.int (bz (¬ ((xs &&& (1 : Int32)) = (0 : Int32))))), .val (.int (Int32.ofNat mn)), .unset, .unset, .unset, .unset] [])) _
      refine XS.aload X36.here hx rfl (hb hby at_135) rfl rfl ?_
      refine XS.iload X36.here hx rfl (hb hby at_137) rfl ?_
      exact k)
    have R48 : Rep Z n0 T36.heap ((b736, Ar .int (nl (List.replicate (max [y0, y1, y2, y3].length cn) 0))) :: (b33, Obj "com/example/witgen/witgen/regex/Partition" [("elements", "[I", (.ref b136)), ("location", "[I", (.ref b236)), ("blockOf", "[I", (.ref b336)), ("start", "[I", (.ref b436)), ("end", "[I", (.ref b536)), ("marked", "[I", (.ref b636)), ("touched", "[I", (.ref b736)), ("blocks", "I", (.int (Int32.ofNat cn))), ("touchedCount", "I", (.int (0 : Int32)))]) :: (b136, Ar .int (nl (pS4 [y0, y1, y2, y3] cn).1)) :: (b236, Ar .int (nl (pS4 [y0, y1, y2, y3] cn).2.1)) :: (b336, Ar .int (nl [y0, y1, y2, y3])) :: (b436, Ar .int (nl (pSt [y0, y1, y2, y3] cn))) :: (b536, Ar .int (nl (pEn [y0, y1, y2, y3] cn))) :: (b636, Ar .int (nl (List.replicate (max [y0, y1, y2, y3].length cn) 0))) :: (b19, Ar .int (nl [y0, y1, y2, y3])) :: (b4, Ar .int (nl [y0, y1, y2, y3])) :: []) := R36.front 7 rfl rfl
    have R49 : Rep Z n0 T36.heap ((b636, Ar .int (nl (List.replicate (max [y0, y1, y2, y3].length cn) 0))) :: (b736, Ar .int (nl (List.replicate (max [y0, y1, y2, y3].length cn) 0))) :: (b33, Obj "com/example/witgen/witgen/regex/Partition" [("elements", "[I", (.ref b136)), ("location", "[I", (.ref b236)), ("blockOf", "[I", (.ref b336)), ("start", "[I", (.ref b436)), ("end", "[I", (.ref b536)), ("marked", "[I", (.ref b636)), ("touched", "[I", (.ref b736)), ("blocks", "I", (.int (Int32.ofNat cn))), ("touchedCount", "I", (.int (0 : Int32)))]) :: (b136, Ar .int (nl (pS4 [y0, y1, y2, y3] cn).1)) :: (b236, Ar .int (nl (pS4 [y0, y1, y2, y3] cn).2.1)) :: (b336, Ar .int (nl [y0, y1, y2, y3])) :: (b436, Ar .int (nl (pSt [y0, y1, y2, y3] cn))) :: (b536, Ar .int (nl (pEn [y0, y1, y2, y3] cn))) :: (b19, Ar .int (nl [y0, y1, y2, y3])) :: (b4, Ar .int (nl [y0, y1, y2, y3])) :: []) := R48.front 7 rfl rfl
    have R50 : Rep Z n0 T36.heap ((b436, Ar .int (nl (pSt [y0, y1, y2, y3] cn))) :: (b636, Ar .int (nl (List.replicate (max [y0, y1, y2, y3].length cn) 0))) :: (b736, Ar .int (nl (List.replicate (max [y0, y1, y2, y3].length cn) 0))) :: (b33, Obj "com/example/witgen/witgen/regex/Partition" [("elements", "[I", (.ref b136)), ("location", "[I", (.ref b236)), ("blockOf", "[I", (.ref b336)), ("start", "[I", (.ref b436)), ("end", "[I", (.ref b536)), ("marked", "[I", (.ref b636)), ("touched", "[I", (.ref b736)), ("blocks", "I", (.int (Int32.ofNat cn))), ("touchedCount", "I", (.int (0 : Int32)))]) :: (b136, Ar .int (nl (pS4 [y0, y1, y2, y3] cn).1)) :: (b236, Ar .int (nl (pS4 [y0, y1, y2, y3] cn).2.1)) :: (b336, Ar .int (nl [y0, y1, y2, y3])) :: (b536, Ar .int (nl (pEn [y0, y1, y2, y3] cn))) :: (b19, Ar .int (nl [y0, y1, y2, y3])) :: (b4, Ar .int (nl [y0, y1, y2, y3])) :: []) := R49.front 6 rfl rfl
    have R51 : Rep Z n0 T36.heap ((b336, Ar .int (nl [y0, y1, y2, y3])) :: (b436, Ar .int (nl (pSt [y0, y1, y2, y3] cn))) :: (b636, Ar .int (nl (List.replicate (max [y0, y1, y2, y3].length cn) 0))) :: (b736, Ar .int (nl (List.replicate (max [y0, y1, y2, y3].length cn) 0))) :: (b33, Obj "com/example/witgen/witgen/regex/Partition" [("elements", "[I", (.ref b136)), ("location", "[I", (.ref b236)), ("blockOf", "[I", (.ref b336)), ("start", "[I", (.ref b436)), ("end", "[I", (.ref b536)), ("marked", "[I", (.ref b636)), ("touched", "[I", (.ref b736)), ("blocks", "I", (.int (Int32.ofNat cn))), ("touchedCount", "I", (.int (0 : Int32)))]) :: (b136, Ar .int (nl (pS4 [y0, y1, y2, y3] cn).1)) :: (b236, Ar .int (nl (pS4 [y0, y1, y2, y3] cn).2.1)) :: (b536, Ar .int (nl (pEn [y0, y1, y2, y3] cn))) :: (b19, Ar .int (nl [y0, y1, y2, y3])) :: (b4, Ar .int (nl [y0, y1, y2, y3])) :: []) := R50.front 6 rfl rfl
    have R52 : Rep Z n0 T36.heap ((b236, Ar .int (nl (pS4 [y0, y1, y2, y3] cn).2.1)) :: (b336, Ar .int (nl [y0, y1, y2, y3])) :: (b436, Ar .int (nl (pSt [y0, y1, y2, y3] cn))) :: (b636, Ar .int (nl (List.replicate (max [y0, y1, y2, y3].length cn) 0))) :: (b736, Ar .int (nl (List.replicate (max [y0, y1, y2, y3].length cn) 0))) :: (b33, Obj "com/example/witgen/witgen/regex/Partition" [("elements", "[I", (.ref b136)), ("location", "[I", (.ref b236)), ("blockOf", "[I", (.ref b336)), ("start", "[I", (.ref b436)), ("end", "[I", (.ref b536)), ("marked", "[I", (.ref b636)), ("touched", "[I", (.ref b736)), ("blocks", "I", (.int (Int32.ofNat cn))), ("touchedCount", "I", (.int (0 : Int32)))]) :: (b136, Ar .int (nl (pS4 [y0, y1, y2, y3] cn).1)) :: (b536, Ar .int (nl (pEn [y0, y1, y2, y3] cn))) :: (b19, Ar .int (nl [y0, y1, y2, y3])) :: (b4, Ar .int (nl [y0, y1, y2, y3])) :: []) := R51.front 6 rfl rfl
    have R53 : Rep Z n0 T36.heap ((b136, Ar .int (nl (pS4 [y0, y1, y2, y3] cn).1)) :: (b236, Ar .int (nl (pS4 [y0, y1, y2, y3] cn).2.1)) :: (b336, Ar .int (nl [y0, y1, y2, y3])) :: (b436, Ar .int (nl (pSt [y0, y1, y2, y3] cn))) :: (b636, Ar .int (nl (List.replicate (max [y0, y1, y2, y3].length cn) 0))) :: (b736, Ar .int (nl (List.replicate (max [y0, y1, y2, y3].length cn) 0))) :: (b33, Obj "com/example/witgen/witgen/regex/Partition" [("elements", "[I", (.ref b136)), ("location", "[I", (.ref b236)), ("blockOf", "[I", (.ref b336)), ("start", "[I", (.ref b436)), ("end", "[I", (.ref b536)), ("marked", "[I", (.ref b636)), ("touched", "[I", (.ref b736)), ("blocks", "I", (.int (Int32.ofNat cn))), ("touchedCount", "I", (.int (0 : Int32)))]) :: (b536, Ar .int (nl (pEn [y0, y1, y2, y3] cn))) :: (b19, Ar .int (nl [y0, y1, y2, y3])) :: (b4, Ar .int (nl [y0, y1, y2, y3])) :: []) := R52.front 6 rfl rfl
    have R54 : Rep Z n0 T36.heap ((b33, Obj "com/example/witgen/witgen/regex/Partition" [("elements", "[I", (.ref b136)), ("location", "[I", (.ref b236)), ("blockOf", "[I", (.ref b336)), ("start", "[I", (.ref b436)), ("end", "[I", (.ref b536)), ("marked", "[I", (.ref b636)), ("touched", "[I", (.ref b736)), ("blocks", "I", (.int (Int32.ofNat cn))), ("touchedCount", "I", (.int (0 : Int32)))]) :: (b136, Ar .int (nl (pS4 [y0, y1, y2, y3] cn).1)) :: (b236, Ar .int (nl (pS4 [y0, y1, y2, y3] cn).2.1)) :: (b336, Ar .int (nl [y0, y1, y2, y3])) :: (b436, Ar .int (nl (pSt [y0, y1, y2, y3] cn))) :: (b636, Ar .int (nl (List.replicate (max [y0, y1, y2, y3].length cn) 0))) :: (b736, Ar .int (nl (List.replicate (max [y0, y1, y2, y3].length cn) 0))) :: (b536, Ar .int (nl (pEn [y0, y1, y2, y3] cn))) :: (b19, Ar .int (nl [y0, y1, y2, y3])) :: (b4, Ar .int (nl [y0, y1, y2, y3])) :: []) := R53.front 6 rfl rfl
    obtain ⟨cq47, kq47, q47a, q47b, q47c⟩ := isOf hZ rfl (R54.exa (i := 0) rfl)
    obtain ⟨_, _, ⟨T47, L47, k47, n47⟩, -, X47, ⟨Lc47, hQ47, l47, y47, z47⟩, st47⟩ := X36.virtualBack hx (y := (⟨"com/example/witgen/witgen/regex/Partition", "mark", "(I)V"⟩ : MethodName)) (z := (⟨"com/example/witgen/witgen/regex/Partition", "mark", "(I)V"⟩ : MethodName)) hown (mvT hZ (hw _ (List.mem_of_getElem? (i := 51) rfl))) (mvT hZ (hw _ (List.mem_of_getElem? (i := 52) rfl))) (notFace_of_selects (args := #[]) (mvT hZ (hw _ (List.mem_of_getElem? (i := 54) rfl)))) (mvT hZ (hw _ (List.mem_of_getElem? (i := 54) rfl))) (mvT hZ (hw _ (List.mem_of_getElem? (i := 53) rfl))) (by decide) (backOf (W := 0) (rm6 l Z a0 hw [] b33 mn _ _ _ _ _ _ _ _ _ _ _ _ _ _ _ T36.heap n0 _ R54 ((okB.parts (hB mn hm4)).1)) hZ (hw _ (List.mem_of_getElem? (i := 55) rfl)) (hw _ (List.mem_of_getElem? (i := 4) rfl)) (by decide) (by decide)) q47a q47c (g := (mkF m 139 #[.val (.int xa), .val (.int xb), .val (.int xc), .val (.int xd), .val (.int xn), .val (.int xs), .val (.int (Int32.ofNat cn)), .val (.ref b4), .val (.ref b19), .val (.ref b33), .val (.int (bz (¬ ((xs &&& (1 : Int32)) = (0 : Int32))))), .val (.int (Int32.ofNat mn)), .unset, .unset, .unset, .unset] [(.int (Int32.ofNat mn)), (.ref b33)])) rfl (by rw [hml]; rfl) (Steps.refl _) (argsL := [(.int (Int32.ofNat mn))]) (rest := []) (lenOf pd__28I_29V rfl) rfl (by show 2 * 0 + _ ≤ _; exact Nat.le_of_eq rfl) (hb hby at_139) (fun _ _ => ⟨rfl, rfl, (by decide : 11 + 0 ≤ _), (by decide : 69 + 0 ≤ _)⟩)
    dsimp only [Pt.U, Pt.locs, Pt.cells, Pt.slots] at X47 l47 y47 z47 st47 hQ47
    subst y47 z47
    obtain ⟨rfl, N47q, R47⟩ := hQ47
    have N47 : Fr n0 L47 := by rw [l47]; exact Fr.app N36 N47q
    replace R47 : Rep Z n0 T47.heap ((b33, Obj "com/example/witgen/witgen/regex/Partition" [("elements", "[I", (.ref b136)), ("location", "[I", (.ref b236)), ("blockOf", "[I", (.ref b336)), ("start", "[I", (.ref b436)), ("end", "[I", (.ref b536)), ("marked", "[I", (.ref b636)), ("touched", "[I", (.ref b736)), ("blocks", "I", (.int (Int32.ofNat cn))), ("touchedCount", "I", (.int (Int32.ofNat (mTc [y0, y1, y2, y3] (List.replicate (max [y0, y1, y2, y3].length cn) 0) 0 mn))))]) :: (b136, Ar .int (nl (mEl [y0, y1, y2, y3] (pSt [y0, y1, y2, y3] cn) (pS4 [y0, y1, y2, y3] cn).1 (pS4 [y0, y1, y2, y3] cn).2.1 (List.replicate (max [y0, y1, y2, y3].length cn) 0) mn))) :: (b236, Ar .int (nl (mLo [y0, y1, y2, y3] (pSt [y0, y1, y2, y3] cn) (pS4 [y0, y1, y2, y3] cn).1 (pS4 [y0, y1, y2, y3] cn).2.1 (List.replicate (max [y0, y1, y2, y3].length cn) 0) mn))) :: (b336, Ar .int (nl [y0, y1, y2, y3])) :: (b436, Ar .int (nl (pSt [y0, y1, y2, y3] cn))) :: (b636, Ar .int (nl (mMk [y0, y1, y2, y3] (List.replicate (max [y0, y1, y2, y3].length cn) 0) mn))) :: (b736, Ar .int (nl (mTo [y0, y1, y2, y3] (List.replicate (max [y0, y1, y2, y3].length cn) 0) (List.replicate (max [y0, y1, y2, y3].length cn) 0) 0 mn))) :: (b536, Ar .int (nl (pEn [y0, y1, y2, y3] cn))) :: (b19, Ar .int (nl [y0, y1, y2, y3])) :: (b4, Ar .int (nl [y0, y1, y2, y3])) :: []) := R47
    have pre55 : ∀ t, Steps p.tables e below (T47.setTop (mkF m 142 #[.val (.int xa), .val (.int xb), .val (.int xc), .val (.int xd), .val (.int xn), .val (.int xs), .val (.int (Int32.ofNat cn)), .val (.ref b4), .val (.ref b19), .val (.ref b33), .val (.int (bz (¬ ((xs &&& (1 : Int32)) = (0 : Int32))))), .val (.int (Int32.ofNat mn)), .unset, .unset, .unset, .unset] [])) t → Steps p.tables e below (s₁.setTop (entryFrame m #[(.int xa), (.int xb), (.int xc), (.int xd), (.int xn), (.int xs)] maxLocals)) t := fun t k => pre46 t (st47.trans k)
    rw [bz_t (P := (¬ ((xs &&& (1 : Int32)) = (0 : Int32)))) hmk] at pre55
    have pre56 : ∀ t, Steps p.tables e below (T47.setTop (mkF m 145 #[.val (.int xa), .val (.int xb), .val (.int xc), .val (.int xd), .val (.int xn), .val (.int xs), .val (.int (Int32.ofNat cn)), .val (.ref b4), .val (.ref b19), .val (.ref b33), .val (.int (1 : Int32)), .val (.int (Int32.ofNat mn)), .unset, .unset, .unset, .unset] [(.int (0 : Int32)), (.ref b33)])) t → Steps p.tables e below (s₁.setTop (entryFrame m #[(.int xa), (.int xb), (.int xc), (.int xd), (.int xn), (.int xs)] maxLocals)) t := fun t k => pre55 t (by
      show Steps p.tables e below (T47.setTop (mkF m 142 #[.val (.int xa), .val (.int xb), .val (.int xc), .val (.int xd), .val (.int xn), .val (.int xs), .val (.int (Int32.ofNat cn)), .val (.ref b4), .val (.ref b19), .val (.ref b33), .val (.int (1 : Int32)), .val (.int (Int32.ofNat mn)), .unset, .unset, .unset, .unset] [])) _
      refine XS.aload X47.here hx rfl (hb hby at_142) rfl rfl ?_
      refine XS.iconst X47.here hx rfl (hb hby at_144) ?_
      exact k)
    have R58 : Rep Z n0 T47.heap ((b436, Ar .int (nl (pSt [y0, y1, y2, y3] cn))) :: (b33, Obj "com/example/witgen/witgen/regex/Partition" [("elements", "[I", (.ref b136)), ("location", "[I", (.ref b236)), ("blockOf", "[I", (.ref b336)), ("start", "[I", (.ref b436)), ("end", "[I", (.ref b536)), ("marked", "[I", (.ref b636)), ("touched", "[I", (.ref b736)), ("blocks", "I", (.int (Int32.ofNat cn))), ("touchedCount", "I", (.int (Int32.ofNat (mTc [y0, y1, y2, y3] (List.replicate (max [y0, y1, y2, y3].length cn) 0) 0 mn))))]) :: (b136, Ar .int (nl (mEl [y0, y1, y2, y3] (pSt [y0, y1, y2, y3] cn) (pS4 [y0, y1, y2, y3] cn).1 (pS4 [y0, y1, y2, y3] cn).2.1 (List.replicate (max [y0, y1, y2, y3].length cn) 0) mn))) :: (b236, Ar .int (nl (mLo [y0, y1, y2, y3] (pSt [y0, y1, y2, y3] cn) (pS4 [y0, y1, y2, y3] cn).1 (pS4 [y0, y1, y2, y3] cn).2.1 (List.replicate (max [y0, y1, y2, y3].length cn) 0) mn))) :: (b336, Ar .int (nl [y0, y1, y2, y3])) :: (b636, Ar .int (nl (mMk [y0, y1, y2, y3] (List.replicate (max [y0, y1, y2, y3].length cn) 0) mn))) :: (b736, Ar .int (nl (mTo [y0, y1, y2, y3] (List.replicate (max [y0, y1, y2, y3].length cn) 0) (List.replicate (max [y0, y1, y2, y3].length cn) 0) 0 mn))) :: (b536, Ar .int (nl (pEn [y0, y1, y2, y3] cn))) :: (b19, Ar .int (nl [y0, y1, y2, y3])) :: (b4, Ar .int (nl [y0, y1, y2, y3])) :: []) := R47.front 4 rfl rfl
    have R59 : Rep Z n0 T47.heap ((b336, Ar .int (nl [y0, y1, y2, y3])) :: (b436, Ar .int (nl (pSt [y0, y1, y2, y3] cn))) :: (b33, Obj "com/example/witgen/witgen/regex/Partition" [("elements", "[I", (.ref b136)), ("location", "[I", (.ref b236)), ("blockOf", "[I", (.ref b336)), ("start", "[I", (.ref b436)), ("end", "[I", (.ref b536)), ("marked", "[I", (.ref b636)), ("touched", "[I", (.ref b736)), ("blocks", "I", (.int (Int32.ofNat cn))), ("touchedCount", "I", (.int (Int32.ofNat (mTc [y0, y1, y2, y3] (List.replicate (max [y0, y1, y2, y3].length cn) 0) 0 mn))))]) :: (b136, Ar .int (nl (mEl [y0, y1, y2, y3] (pSt [y0, y1, y2, y3] cn) (pS4 [y0, y1, y2, y3] cn).1 (pS4 [y0, y1, y2, y3] cn).2.1 (List.replicate (max [y0, y1, y2, y3].length cn) 0) mn))) :: (b236, Ar .int (nl (mLo [y0, y1, y2, y3] (pSt [y0, y1, y2, y3] cn) (pS4 [y0, y1, y2, y3] cn).1 (pS4 [y0, y1, y2, y3] cn).2.1 (List.replicate (max [y0, y1, y2, y3].length cn) 0) mn))) :: (b636, Ar .int (nl (mMk [y0, y1, y2, y3] (List.replicate (max [y0, y1, y2, y3].length cn) 0) mn))) :: (b736, Ar .int (nl (mTo [y0, y1, y2, y3] (List.replicate (max [y0, y1, y2, y3].length cn) 0) (List.replicate (max [y0, y1, y2, y3].length cn) 0) 0 mn))) :: (b536, Ar .int (nl (pEn [y0, y1, y2, y3] cn))) :: (b19, Ar .int (nl [y0, y1, y2, y3])) :: (b4, Ar .int (nl [y0, y1, y2, y3])) :: []) := R58.front 4 rfl rfl
    have R60 : Rep Z n0 T47.heap ((b236, Ar .int (nl (mLo [y0, y1, y2, y3] (pSt [y0, y1, y2, y3] cn) (pS4 [y0, y1, y2, y3] cn).1 (pS4 [y0, y1, y2, y3] cn).2.1 (List.replicate (max [y0, y1, y2, y3].length cn) 0) mn))) :: (b336, Ar .int (nl [y0, y1, y2, y3])) :: (b436, Ar .int (nl (pSt [y0, y1, y2, y3] cn))) :: (b33, Obj "com/example/witgen/witgen/regex/Partition" [("elements", "[I", (.ref b136)), ("location", "[I", (.ref b236)), ("blockOf", "[I", (.ref b336)), ("start", "[I", (.ref b436)), ("end", "[I", (.ref b536)), ("marked", "[I", (.ref b636)), ("touched", "[I", (.ref b736)), ("blocks", "I", (.int (Int32.ofNat cn))), ("touchedCount", "I", (.int (Int32.ofNat (mTc [y0, y1, y2, y3] (List.replicate (max [y0, y1, y2, y3].length cn) 0) 0 mn))))]) :: (b136, Ar .int (nl (mEl [y0, y1, y2, y3] (pSt [y0, y1, y2, y3] cn) (pS4 [y0, y1, y2, y3] cn).1 (pS4 [y0, y1, y2, y3] cn).2.1 (List.replicate (max [y0, y1, y2, y3].length cn) 0) mn))) :: (b636, Ar .int (nl (mMk [y0, y1, y2, y3] (List.replicate (max [y0, y1, y2, y3].length cn) 0) mn))) :: (b736, Ar .int (nl (mTo [y0, y1, y2, y3] (List.replicate (max [y0, y1, y2, y3].length cn) 0) (List.replicate (max [y0, y1, y2, y3].length cn) 0) 0 mn))) :: (b536, Ar .int (nl (pEn [y0, y1, y2, y3] cn))) :: (b19, Ar .int (nl [y0, y1, y2, y3])) :: (b4, Ar .int (nl [y0, y1, y2, y3])) :: []) := R59.front 4 rfl rfl
    have R61 : Rep Z n0 T47.heap ((b33, Obj "com/example/witgen/witgen/regex/Partition" [("elements", "[I", (.ref b136)), ("location", "[I", (.ref b236)), ("blockOf", "[I", (.ref b336)), ("start", "[I", (.ref b436)), ("end", "[I", (.ref b536)), ("marked", "[I", (.ref b636)), ("touched", "[I", (.ref b736)), ("blocks", "I", (.int (Int32.ofNat cn))), ("touchedCount", "I", (.int (Int32.ofNat (mTc [y0, y1, y2, y3] (List.replicate (max [y0, y1, y2, y3].length cn) 0) 0 mn))))]) :: (b236, Ar .int (nl (mLo [y0, y1, y2, y3] (pSt [y0, y1, y2, y3] cn) (pS4 [y0, y1, y2, y3] cn).1 (pS4 [y0, y1, y2, y3] cn).2.1 (List.replicate (max [y0, y1, y2, y3].length cn) 0) mn))) :: (b336, Ar .int (nl [y0, y1, y2, y3])) :: (b436, Ar .int (nl (pSt [y0, y1, y2, y3] cn))) :: (b136, Ar .int (nl (mEl [y0, y1, y2, y3] (pSt [y0, y1, y2, y3] cn) (pS4 [y0, y1, y2, y3] cn).1 (pS4 [y0, y1, y2, y3] cn).2.1 (List.replicate (max [y0, y1, y2, y3].length cn) 0) mn))) :: (b636, Ar .int (nl (mMk [y0, y1, y2, y3] (List.replicate (max [y0, y1, y2, y3].length cn) 0) mn))) :: (b736, Ar .int (nl (mTo [y0, y1, y2, y3] (List.replicate (max [y0, y1, y2, y3].length cn) 0) (List.replicate (max [y0, y1, y2, y3].length cn) 0) 0 mn))) :: (b536, Ar .int (nl (pEn [y0, y1, y2, y3] cn))) :: (b19, Ar .int (nl [y0, y1, y2, y3])) :: (b4, Ar .int (nl [y0, y1, y2, y3])) :: []) := R60.front 3 rfl rfl
    obtain ⟨cq57, kq57, q57a, q57b, q57c⟩ := isOf hZ rfl (R61.exa (i := 0) rfl)
    obtain ⟨_, _, ⟨T57, L57, k57, n57⟩, -, X57, ⟨Lc57, hQ57, l57, y57, z57⟩, st57⟩ := X47.virtualBack hx (y := (⟨"com/example/witgen/witgen/regex/Partition", "isFirstOfBlock", "(I)Z"⟩ : MethodName)) (z := (⟨"com/example/witgen/witgen/regex/Partition", "isFirstOfBlock", "(I)Z"⟩ : MethodName)) hown (mvT hZ (hw _ (List.mem_of_getElem? (i := 58) rfl))) (mvT hZ (hw _ (List.mem_of_getElem? (i := 59) rfl))) (notFace_of_selects (args := #[]) (mvT hZ (hw _ (List.mem_of_getElem? (i := 61) rfl)))) (mvT hZ (hw _ (List.mem_of_getElem? (i := 61) rfl))) (mvT hZ (hw _ (List.mem_of_getElem? (i := 60) rfl))) (by decide) (backOf (W := 0) (rm7 l Z a0 hw [] b33 0 _ _ _ _ _ _ _ _ _ _ _ _ T47.heap n0 _ R61 (Nat.lt_of_lt_of_eq (show (0 : Nat) < 4 by decide) ((okB.parts (hB mn hm4)).2.1).symm) (by decide) (show (0 : Nat) < 4 by decide) (by decide) (Nat.lt_of_lt_of_le (own_el (i := 0) rfl ha0 ha1 ha2 ha3 (by decide)) hp.2.2.1) (Nat.lt_of_lt_of_le (own_el (i := 0) rfl ha0 ha1 ha2 ha3 (by decide)) (by omega))) hZ (hw _ (List.mem_of_getElem? (i := 62) rfl)) (hw _ (List.mem_of_getElem? (i := 4) rfl)) (by decide) (by decide)) q57a q57c (g := (mkF m 145 #[.val (.int xa), .val (.int xb), .val (.int xc), .val (.int xd), .val (.int xn), .val (.int xs), .val (.int (Int32.ofNat cn)), .val (.ref b4), .val (.ref b19), .val (.ref b33), .val (.int (1 : Int32)), .val (.int (Int32.ofNat mn)), .unset, .unset, .unset, .unset] [(.int (0 : Int32)), (.ref b33)])) rfl (by rw [hml]; rfl) (Steps.refl _) (argsL := [(.int (0 : Int32))]) (rest := []) (lenOf pd__28I_29Z rfl) rfl (by show 2 * 0 + _ ≤ _; exact Nat.le_of_eq rfl) (hb hby at_145) (fun _ _ => ⟨rfl, rfl, (by decide : 11 + 0 ≤ _), (by decide : 69 + 0 ≤ _)⟩)
    dsimp only [Pt.U, Pt.locs, Pt.cells, Pt.slots] at X57 l57 y57 z57 st57 hQ57
    subst y57 z57
    obtain ⟨rfl, N57q, R57⟩ := hQ57
    have N57 : Fr n0 L57 := by rw [l57]; exact Fr.app N47 N57q
    replace R57 : Rep Z n0 T57.heap ((b33, Obj "com/example/witgen/witgen/regex/Partition" [("elements", "[I", (.ref b136)), ("location", "[I", (.ref b236)), ("blockOf", "[I", (.ref b336)), ("start", "[I", (.ref b436)), ("end", "[I", (.ref b536)), ("marked", "[I", (.ref b636)), ("touched", "[I", (.ref b736)), ("blocks", "I", (.int (Int32.ofNat cn))), ("touchedCount", "I", (.int (Int32.ofNat (mTc [y0, y1, y2, y3] (List.replicate (max [y0, y1, y2, y3].length cn) 0) 0 mn))))]) :: (b236, Ar .int (nl (mLo [y0, y1, y2, y3] (pSt [y0, y1, y2, y3] cn) (pS4 [y0, y1, y2, y3] cn).1 (pS4 [y0, y1, y2, y3] cn).2.1 (List.replicate (max [y0, y1, y2, y3].length cn) 0) mn))) :: (b336, Ar .int (nl [y0, y1, y2, y3])) :: (b436, Ar .int (nl (pSt [y0, y1, y2, y3] cn))) :: (b136, Ar .int (nl (mEl [y0, y1, y2, y3] (pSt [y0, y1, y2, y3] cn) (pS4 [y0, y1, y2, y3] cn).1 (pS4 [y0, y1, y2, y3] cn).2.1 (List.replicate (max [y0, y1, y2, y3].length cn) 0) mn))) :: (b636, Ar .int (nl (mMk [y0, y1, y2, y3] (List.replicate (max [y0, y1, y2, y3].length cn) 0) mn))) :: (b736, Ar .int (nl (mTo [y0, y1, y2, y3] (List.replicate (max [y0, y1, y2, y3].length cn) 0) (List.replicate (max [y0, y1, y2, y3].length cn) 0) 0 mn))) :: (b536, Ar .int (nl (pEn [y0, y1, y2, y3] cn))) :: (b19, Ar .int (nl [y0, y1, y2, y3])) :: (b4, Ar .int (nl [y0, y1, y2, y3])) :: []) := R57
    have pre62 : ∀ t, Steps p.tables e below (T57.setTop (mkF m 148 #[.val (.int xa), .val (.int xb), .val (.int xc), .val (.int xd), .val (.int xn), .val (.int xs), .val (.int (Int32.ofNat cn)), .val (.ref b4), .val (.ref b19), .val (.ref b33), .val (.int (1 : Int32)), .val (.int (Int32.ofNat mn)), .unset, .unset, .unset, .unset] [(.int (F7 0 (mLo [y0, y1, y2, y3] (pSt [y0, y1, y2, y3] cn) (pS4 [y0, y1, y2, y3] cn).1 (pS4 [y0, y1, y2, y3] cn).2.1 (List.replicate (max [y0, y1, y2, y3].length cn) 0) mn) [y0, y1, y2, y3] (pSt [y0, y1, y2, y3] cn)))])) t → Steps p.tables e below (s₁.setTop (entryFrame m #[(.int xa), (.int xb), (.int xc), (.int xd), (.int xn), (.int xs)] maxLocals)) t := fun t k => pre56 t (st57.trans k)
    have pre63 : ∀ t, Steps p.tables e below (T57.setTop (mkF m 155 #[.val (.int xa), .val (.int xb), .val (.int xc), .val (.int xd), .val (.int xn), .val (.int xs), .val (.int (Int32.ofNat cn)), .val (.ref b4), .val (.ref b19), .val (.ref b33), .val (.int (1 : Int32)), .val (.int (Int32.ofNat mn)), .unset, .unset, .unset, .unset] [(.int (1 : Int32)), (.int (Int32.ofNat mn)), (.int (0 : Int32)), (.ref b4), (.int (F7 0 (mLo [y0, y1, y2, y3] (pSt [y0, y1, y2, y3] cn) (pS4 [y0, y1, y2, y3] cn).1 (pS4 [y0, y1, y2, y3] cn).2.1 (List.replicate (max [y0, y1, y2, y3].length cn) 0) mn) [y0, y1, y2, y3] (pSt [y0, y1, y2, y3] cn)))])) t → Steps p.tables e below (s₁.setTop (entryFrame m #[(.int xa), (.int xb), (.int xc), (.int xd), (.int xn), (.int xs)] maxLocals)) t := fun t k => pre62 t (by
      show Steps p.tables e below (T57.setTop (mkF m 148 #[.val (.int xa), .val (.int xb), .val (.int xc), .val (.int xd), .val (.int xn), .val (.int xs), .val (.int (Int32.ofNat cn)), .val (.ref b4), .val (.ref b19), .val (.ref b33), .val (.int (1 : Int32)), .val (.int (Int32.ofNat mn)), .unset, .unset, .unset, .unset] [(.int (F7 0 (mLo [y0, y1, y2, y3] (pSt [y0, y1, y2, y3] cn) (pS4 [y0, y1, y2, y3] cn).1 (pS4 [y0, y1, y2, y3] cn).2.1 (List.replicate (max [y0, y1, y2, y3].length cn) 0) mn) [y0, y1, y2, y3] (pSt [y0, y1, y2, y3] cn)))])) _
      refine XS.aload X57.here hx rfl (hb hby at_148) rfl rfl ?_
      refine XS.iconst X57.here hx rfl (hb hby at_150) ?_
      refine XS.iload X57.here hx rfl (hb hby at_151) rfl ?_
      refine XS.iload X57.here hx rfl (hb hby at_153) rfl ?_
      exact k)
    have R65 : Rep Z n0 T57.heap ((b4, Ar .int (nl [y0, y1, y2, y3])) :: (b33, Obj "com/example/witgen/witgen/regex/Partition" [("elements", "[I", (.ref b136)), ("location", "[I", (.ref b236)), ("blockOf", "[I", (.ref b336)), ("start", "[I", (.ref b436)), ("end", "[I", (.ref b536)), ("marked", "[I", (.ref b636)), ("touched", "[I", (.ref b736)), ("blocks", "I", (.int (Int32.ofNat cn))), ("touchedCount", "I", (.int (Int32.ofNat (mTc [y0, y1, y2, y3] (List.replicate (max [y0, y1, y2, y3].length cn) 0) 0 mn))))]) :: (b236, Ar .int (nl (mLo [y0, y1, y2, y3] (pSt [y0, y1, y2, y3] cn) (pS4 [y0, y1, y2, y3] cn).1 (pS4 [y0, y1, y2, y3] cn).2.1 (List.replicate (max [y0, y1, y2, y3].length cn) 0) mn))) :: (b336, Ar .int (nl [y0, y1, y2, y3])) :: (b436, Ar .int (nl (pSt [y0, y1, y2, y3] cn))) :: (b136, Ar .int (nl (mEl [y0, y1, y2, y3] (pSt [y0, y1, y2, y3] cn) (pS4 [y0, y1, y2, y3] cn).1 (pS4 [y0, y1, y2, y3] cn).2.1 (List.replicate (max [y0, y1, y2, y3].length cn) 0) mn))) :: (b636, Ar .int (nl (mMk [y0, y1, y2, y3] (List.replicate (max [y0, y1, y2, y3].length cn) 0) mn))) :: (b736, Ar .int (nl (mTo [y0, y1, y2, y3] (List.replicate (max [y0, y1, y2, y3].length cn) 0) (List.replicate (max [y0, y1, y2, y3].length cn) 0) 0 mn))) :: (b536, Ar .int (nl (pEn [y0, y1, y2, y3] cn))) :: (b19, Ar .int (nl [y0, y1, y2, y3])) :: []) := R57.front 9 rfl rfl
    obtain ⟨_, _, ⟨T64, L64, k64, n64⟩, -, X64, ⟨Lc64, hQ64, l64, y64, z64⟩, st64⟩ := Jvm.LawKit.callS X57 hx (y := (⟨"com/example/witgen/witgen/regex/PartitionIsFirstOfBlockPinLaw", "firstRef", "([IIIZ)Z"⟩ : MethodName)) hown (mvT hZ (hw _ (List.mem_of_getElem? (i := 63) rfl))) (mvT hZ (hw _ (List.mem_of_getElem? (i := 64) rfl))) (mvT hZ (hw _ (List.mem_of_getElem? (i := 65) rfl))) (mvT hZ (hw _ (List.mem_of_getElem? (i := 66) rfl))) (by decide) (backOf (W := 1) (rm8 l Z a0 hw [] b4 0 mn (1 : Int32) _ T57.heap n0 _ R65 (show (0 : Nat) < 4 by decide) (by decide) (show (0 : Nat) < 4 by decide) (by decide) (show (1 : Nat) < 4 by decide) (by decide) (show (2 : Nat) < 4 by decide) (by decide) (by simpa using hm4) (by omega)) hZ (hw _ (List.mem_of_getElem? (i := 66) rfl)) (hw _ (List.mem_of_getElem? (i := 65) rfl)) (by decide) (by decide)) (g := (mkF m 155 #[.val (.int xa), .val (.int xb), .val (.int xc), .val (.int xd), .val (.int xn), .val (.int xs), .val (.int (Int32.ofNat cn)), .val (.ref b4), .val (.ref b19), .val (.ref b33), .val (.int (1 : Int32)), .val (.int (Int32.ofNat mn)), .unset, .unset, .unset, .unset] [(.int (1 : Int32)), (.int (Int32.ofNat mn)), (.int (0 : Int32)), (.ref b4), (.int (F7 0 (mLo [y0, y1, y2, y3] (pSt [y0, y1, y2, y3] cn) (pS4 [y0, y1, y2, y3] cn).1 (pS4 [y0, y1, y2, y3] cn).2.1 (List.replicate (max [y0, y1, y2, y3].length cn) 0) mn) [y0, y1, y2, y3] (pSt [y0, y1, y2, y3] cn)))])) rfl (by rw [hml]; rfl) (argsL := [(.ref b4), (.int (0 : Int32)), (.int (Int32.ofNat mn)), (.int (1 : Int32))]) (rest := [(.int (F7 0 (mLo [y0, y1, y2, y3] (pSt [y0, y1, y2, y3] cn) (pS4 [y0, y1, y2, y3] cn).1 (pS4 [y0, y1, y2, y3] cn).2.1 (List.replicate (max [y0, y1, y2, y3].length cn) 0) mn) [y0, y1, y2, y3] (pSt [y0, y1, y2, y3] cn)))]) (lenOf pd__28_5bIIIZ_29Z rfl) rfl (by show 2 * 0 + _ ≤ _; exact Nat.le_of_eq rfl) (hb hby at_155) (fun _ _ => ⟨rfl, rfl, (by decide : 11 + 0 ≤ _), (by decide : 69 + 0 ≤ _)⟩)
    dsimp only [Pt.U, Pt.locs, Pt.cells, Pt.slots] at X64 l64 y64 z64 st64 hQ64
    subst y64 z64
    obtain ⟨rfl, N64q, R64⟩ := hQ64
    have N64 : Fr n0 L64 := by rw [l64]; exact Fr.app N57 N64q
    replace R64 : Rep Z n0 T64.heap ((b4, Ar .int (nl [y0, y1, y2, y3])) :: (b33, Obj "com/example/witgen/witgen/regex/Partition" [("elements", "[I", (.ref b136)), ("location", "[I", (.ref b236)), ("blockOf", "[I", (.ref b336)), ("start", "[I", (.ref b436)), ("end", "[I", (.ref b536)), ("marked", "[I", (.ref b636)), ("touched", "[I", (.ref b736)), ("blocks", "I", (.int (Int32.ofNat cn))), ("touchedCount", "I", (.int (Int32.ofNat (mTc [y0, y1, y2, y3] (List.replicate (max [y0, y1, y2, y3].length cn) 0) 0 mn))))]) :: (b236, Ar .int (nl (mLo [y0, y1, y2, y3] (pSt [y0, y1, y2, y3] cn) (pS4 [y0, y1, y2, y3] cn).1 (pS4 [y0, y1, y2, y3] cn).2.1 (List.replicate (max [y0, y1, y2, y3].length cn) 0) mn))) :: (b336, Ar .int (nl [y0, y1, y2, y3])) :: (b436, Ar .int (nl (pSt [y0, y1, y2, y3] cn))) :: (b136, Ar .int (nl (mEl [y0, y1, y2, y3] (pSt [y0, y1, y2, y3] cn) (pS4 [y0, y1, y2, y3] cn).1 (pS4 [y0, y1, y2, y3] cn).2.1 (List.replicate (max [y0, y1, y2, y3].length cn) 0) mn))) :: (b636, Ar .int (nl (mMk [y0, y1, y2, y3] (List.replicate (max [y0, y1, y2, y3].length cn) 0) mn))) :: (b736, Ar .int (nl (mTo [y0, y1, y2, y3] (List.replicate (max [y0, y1, y2, y3].length cn) 0) (List.replicate (max [y0, y1, y2, y3].length cn) 0) 0 mn))) :: (b536, Ar .int (nl (pEn [y0, y1, y2, y3] cn))) :: (b19, Ar .int (nl [y0, y1, y2, y3])) :: []) := R64
    have pre66 : ∀ t, Steps p.tables e below (T64.setTop (mkF m 158 #[.val (.int xa), .val (.int xb), .val (.int xc), .val (.int xd), .val (.int xn), .val (.int xs), .val (.int (Int32.ofNat cn)), .val (.ref b4), .val (.ref b19), .val (.ref b33), .val (.int (1 : Int32)), .val (.int (Int32.ofNat mn)), .unset, .unset, .unset, .unset] [(.int (F8 0 mn (1 : Int32) [y0, y1, y2, y3])), (.int (F7 0 (mLo [y0, y1, y2, y3] (pSt [y0, y1, y2, y3] cn) (pS4 [y0, y1, y2, y3] cn).1 (pS4 [y0, y1, y2, y3] cn).2.1 (List.replicate (max [y0, y1, y2, y3].length cn) 0) mn) [y0, y1, y2, y3] (pSt [y0, y1, y2, y3] cn)))])) t → Steps p.tables e below (s₁.setTop (entryFrame m #[(.int xa), (.int xb), (.int xc), (.int xd), (.int xn), (.int xs)] maxLocals)) t := fun t k => pre63 t (st64 t k)
    have hb67 : (F7 0 (mLo [y0, y1, y2, y3] (pSt [y0, y1, y2, y3] cn) (pS4 [y0, y1, y2, y3] cn).1 (pS4 [y0, y1, y2, y3] cn).2.1 (List.replicate (max [y0, y1, y2, y3].length cn) 0) mn) [y0, y1, y2, y3] (pSt [y0, y1, y2, y3] cn)) = (F8 0 mn (1 : Int32) [y0, y1, y2, y3]) := (okB.parts (hB mn hm4)).2.2 0 (by decide)
    have pre68 : ∀ t, Steps p.tables e below (T64.setTop (mkF m 171 #[.val (.int xa), .val (.int xb), .val (.int xc), .val (.int xd), .val (.int xn), .val (.int xs), .val (.int (Int32.ofNat cn)), .val (.ref b4), .val (.ref b19), .val (.ref b33), .val (.int (1 : Int32)), .val (.int (Int32.ofNat mn)), .val (.int (1 : Int32)), .unset, .unset, .unset] [(.int (1 : Int32)), (.ref b33)])) t → Steps p.tables e below (s₁.setTop (entryFrame m #[(.int xa), (.int xb), (.int xc), (.int xd), (.int xn), (.int xs)] maxLocals)) t := fun t k => pre66 t (by
      show Steps p.tables e below (T64.setTop (mkF m 158 #[.val (.int xa), .val (.int xb), .val (.int xc), .val (.int xd), .val (.int xn), .val (.int xs), .val (.int (Int32.ofNat cn)), .val (.ref b4), .val (.ref b19), .val (.ref b33), .val (.int (1 : Int32)), .val (.int (Int32.ofNat mn)), .unset, .unset, .unset, .unset] [(.int (F8 0 mn (1 : Int32) [y0, y1, y2, y3])), (.int (F7 0 (mLo [y0, y1, y2, y3] (pSt [y0, y1, y2, y3] cn) (pS4 [y0, y1, y2, y3] cn).1 (pS4 [y0, y1, y2, y3] cn).2.1 (List.replicate (max [y0, y1, y2, y3].length cn) 0) mn) [y0, y1, y2, y3] (pSt [y0, y1, y2, y3] cn)))])) _
      refine XS.icmpNo X64.here hx rfl (hb hby at_158) rfl (teq hb67).2 ?_
      refine XS.iconst X64.here hx rfl (hb hby at_161) ?_
      refine XS.goto X64.here hx rfl (pc0 := 162) (pc' := 166) rfl (hb hby at_162) (by decide) (by decide) ?_
      refine XS.istore X64.here hx rfl (hb hby at_166) rfl (l' := #[.val (.int xa), .val (.int xb), .val (.int xc), .val (.int xd), .val (.int xn), .val (.int xs), .val (.int (Int32.ofNat cn)), .val (.ref b4), .val (.ref b19), .val (.ref b33), .val (.int (1 : Int32)), .val (.int (Int32.ofNat mn)), .val (.int (1 : Int32)), .unset, .unset, .unset]) rfl ?_
      refine XS.aload X64.here hx rfl (hb hby at_168) rfl rfl ?_
      refine XS.iconst X64.here hx rfl (hb hby at_170) ?_
      exact k)
    have R70 : Rep Z n0 T64.heap ((b436, Ar .int (nl (pSt [y0, y1, y2, y3] cn))) :: (b4, Ar .int (nl [y0, y1, y2, y3])) :: (b33, Obj "com/example/witgen/witgen/regex/Partition" [("elements", "[I", (.ref b136)), ("location", "[I", (.ref b236)), ("blockOf", "[I", (.ref b336)), ("start", "[I", (.ref b436)), ("end", "[I", (.ref b536)), ("marked", "[I", (.ref b636)), ("touched", "[I", (.ref b736)), ("blocks", "I", (.int (Int32.ofNat cn))), ("touchedCount", "I", (.int (Int32.ofNat (mTc [y0, y1, y2, y3] (List.replicate (max [y0, y1, y2, y3].length cn) 0) 0 mn))))]) :: (b236, Ar .int (nl (mLo [y0, y1, y2, y3] (pSt [y0, y1, y2, y3] cn) (pS4 [y0, y1, y2, y3] cn).1 (pS4 [y0, y1, y2, y3] cn).2.1 (List.replicate (max [y0, y1, y2, y3].length cn) 0) mn))) :: (b336, Ar .int (nl [y0, y1, y2, y3])) :: (b136, Ar .int (nl (mEl [y0, y1, y2, y3] (pSt [y0, y1, y2, y3] cn) (pS4 [y0, y1, y2, y3] cn).1 (pS4 [y0, y1, y2, y3] cn).2.1 (List.replicate (max [y0, y1, y2, y3].length cn) 0) mn))) :: (b636, Ar .int (nl (mMk [y0, y1, y2, y3] (List.replicate (max [y0, y1, y2, y3].length cn) 0) mn))) :: (b736, Ar .int (nl (mTo [y0, y1, y2, y3] (List.replicate (max [y0, y1, y2, y3].length cn) 0) (List.replicate (max [y0, y1, y2, y3].length cn) 0) 0 mn))) :: (b536, Ar .int (nl (pEn [y0, y1, y2, y3] cn))) :: (b19, Ar .int (nl [y0, y1, y2, y3])) :: []) := R64.front 4 rfl rfl
    have R71 : Rep Z n0 T64.heap ((b336, Ar .int (nl [y0, y1, y2, y3])) :: (b436, Ar .int (nl (pSt [y0, y1, y2, y3] cn))) :: (b4, Ar .int (nl [y0, y1, y2, y3])) :: (b33, Obj "com/example/witgen/witgen/regex/Partition" [("elements", "[I", (.ref b136)), ("location", "[I", (.ref b236)), ("blockOf", "[I", (.ref b336)), ("start", "[I", (.ref b436)), ("end", "[I", (.ref b536)), ("marked", "[I", (.ref b636)), ("touched", "[I", (.ref b736)), ("blocks", "I", (.int (Int32.ofNat cn))), ("touchedCount", "I", (.int (Int32.ofNat (mTc [y0, y1, y2, y3] (List.replicate (max [y0, y1, y2, y3].length cn) 0) 0 mn))))]) :: (b236, Ar .int (nl (mLo [y0, y1, y2, y3] (pSt [y0, y1, y2, y3] cn) (pS4 [y0, y1, y2, y3] cn).1 (pS4 [y0, y1, y2, y3] cn).2.1 (List.replicate (max [y0, y1, y2, y3].length cn) 0) mn))) :: (b136, Ar .int (nl (mEl [y0, y1, y2, y3] (pSt [y0, y1, y2, y3] cn) (pS4 [y0, y1, y2, y3] cn).1 (pS4 [y0, y1, y2, y3] cn).2.1 (List.replicate (max [y0, y1, y2, y3].length cn) 0) mn))) :: (b636, Ar .int (nl (mMk [y0, y1, y2, y3] (List.replicate (max [y0, y1, y2, y3].length cn) 0) mn))) :: (b736, Ar .int (nl (mTo [y0, y1, y2, y3] (List.replicate (max [y0, y1, y2, y3].length cn) 0) (List.replicate (max [y0, y1, y2, y3].length cn) 0) 0 mn))) :: (b536, Ar .int (nl (pEn [y0, y1, y2, y3] cn))) :: (b19, Ar .int (nl [y0, y1, y2, y3])) :: []) := R70.front 4 rfl rfl
    have R72 : Rep Z n0 T64.heap ((b236, Ar .int (nl (mLo [y0, y1, y2, y3] (pSt [y0, y1, y2, y3] cn) (pS4 [y0, y1, y2, y3] cn).1 (pS4 [y0, y1, y2, y3] cn).2.1 (List.replicate (max [y0, y1, y2, y3].length cn) 0) mn))) :: (b336, Ar .int (nl [y0, y1, y2, y3])) :: (b436, Ar .int (nl (pSt [y0, y1, y2, y3] cn))) :: (b4, Ar .int (nl [y0, y1, y2, y3])) :: (b33, Obj "com/example/witgen/witgen/regex/Partition" [("elements", "[I", (.ref b136)), ("location", "[I", (.ref b236)), ("blockOf", "[I", (.ref b336)), ("start", "[I", (.ref b436)), ("end", "[I", (.ref b536)), ("marked", "[I", (.ref b636)), ("touched", "[I", (.ref b736)), ("blocks", "I", (.int (Int32.ofNat cn))), ("touchedCount", "I", (.int (Int32.ofNat (mTc [y0, y1, y2, y3] (List.replicate (max [y0, y1, y2, y3].length cn) 0) 0 mn))))]) :: (b136, Ar .int (nl (mEl [y0, y1, y2, y3] (pSt [y0, y1, y2, y3] cn) (pS4 [y0, y1, y2, y3] cn).1 (pS4 [y0, y1, y2, y3] cn).2.1 (List.replicate (max [y0, y1, y2, y3].length cn) 0) mn))) :: (b636, Ar .int (nl (mMk [y0, y1, y2, y3] (List.replicate (max [y0, y1, y2, y3].length cn) 0) mn))) :: (b736, Ar .int (nl (mTo [y0, y1, y2, y3] (List.replicate (max [y0, y1, y2, y3].length cn) 0) (List.replicate (max [y0, y1, y2, y3].length cn) 0) 0 mn))) :: (b536, Ar .int (nl (pEn [y0, y1, y2, y3] cn))) :: (b19, Ar .int (nl [y0, y1, y2, y3])) :: []) := R71.front 4 rfl rfl
    have R73 : Rep Z n0 T64.heap ((b33, Obj "com/example/witgen/witgen/regex/Partition" [("elements", "[I", (.ref b136)), ("location", "[I", (.ref b236)), ("blockOf", "[I", (.ref b336)), ("start", "[I", (.ref b436)), ("end", "[I", (.ref b536)), ("marked", "[I", (.ref b636)), ("touched", "[I", (.ref b736)), ("blocks", "I", (.int (Int32.ofNat cn))), ("touchedCount", "I", (.int (Int32.ofNat (mTc [y0, y1, y2, y3] (List.replicate (max [y0, y1, y2, y3].length cn) 0) 0 mn))))]) :: (b236, Ar .int (nl (mLo [y0, y1, y2, y3] (pSt [y0, y1, y2, y3] cn) (pS4 [y0, y1, y2, y3] cn).1 (pS4 [y0, y1, y2, y3] cn).2.1 (List.replicate (max [y0, y1, y2, y3].length cn) 0) mn))) :: (b336, Ar .int (nl [y0, y1, y2, y3])) :: (b436, Ar .int (nl (pSt [y0, y1, y2, y3] cn))) :: (b4, Ar .int (nl [y0, y1, y2, y3])) :: (b136, Ar .int (nl (mEl [y0, y1, y2, y3] (pSt [y0, y1, y2, y3] cn) (pS4 [y0, y1, y2, y3] cn).1 (pS4 [y0, y1, y2, y3] cn).2.1 (List.replicate (max [y0, y1, y2, y3].length cn) 0) mn))) :: (b636, Ar .int (nl (mMk [y0, y1, y2, y3] (List.replicate (max [y0, y1, y2, y3].length cn) 0) mn))) :: (b736, Ar .int (nl (mTo [y0, y1, y2, y3] (List.replicate (max [y0, y1, y2, y3].length cn) 0) (List.replicate (max [y0, y1, y2, y3].length cn) 0) 0 mn))) :: (b536, Ar .int (nl (pEn [y0, y1, y2, y3] cn))) :: (b19, Ar .int (nl [y0, y1, y2, y3])) :: []) := R72.front 4 rfl rfl
    obtain ⟨cq69, kq69, q69a, q69b, q69c⟩ := isOf hZ rfl (R73.exa (i := 0) rfl)
    obtain ⟨_, _, ⟨T69, L69, k69, n69⟩, -, X69, ⟨Lc69, hQ69, l69, y69, z69⟩, st69⟩ := X64.virtualBack hx (y := (⟨"com/example/witgen/witgen/regex/Partition", "isFirstOfBlock", "(I)Z"⟩ : MethodName)) (z := (⟨"com/example/witgen/witgen/regex/Partition", "isFirstOfBlock", "(I)Z"⟩ : MethodName)) hown (mvT hZ (hw _ (List.mem_of_getElem? (i := 58) rfl))) (mvT hZ (hw _ (List.mem_of_getElem? (i := 59) rfl))) (notFace_of_selects (args := #[]) (mvT hZ (hw _ (List.mem_of_getElem? (i := 61) rfl)))) (mvT hZ (hw _ (List.mem_of_getElem? (i := 61) rfl))) (mvT hZ (hw _ (List.mem_of_getElem? (i := 60) rfl))) (by decide) (backOf (W := 0) (rm7 l Z a0 hw [] b33 1 _ _ _ _ _ _ _ _ _ _ _ _ T64.heap n0 _ R73 (Nat.lt_of_lt_of_eq (show (1 : Nat) < 4 by decide) ((okB.parts (hB mn hm4)).2.1).symm) (by decide) (show (1 : Nat) < 4 by decide) (by decide) (Nat.lt_of_lt_of_le (own_el (i := 1) rfl ha0 ha1 ha2 ha3 (by decide)) hp.2.2.1) (Nat.lt_of_lt_of_le (own_el (i := 1) rfl ha0 ha1 ha2 ha3 (by decide)) (by omega))) hZ (hw _ (List.mem_of_getElem? (i := 62) rfl)) (hw _ (List.mem_of_getElem? (i := 4) rfl)) (by decide) (by decide)) q69a q69c (g := (mkF m 171 #[.val (.int xa), .val (.int xb), .val (.int xc), .val (.int xd), .val (.int xn), .val (.int xs), .val (.int (Int32.ofNat cn)), .val (.ref b4), .val (.ref b19), .val (.ref b33), .val (.int (1 : Int32)), .val (.int (Int32.ofNat mn)), .val (.int (1 : Int32)), .unset, .unset, .unset] [(.int (1 : Int32)), (.ref b33)])) rfl (by rw [hml]; rfl) (Steps.refl _) (argsL := [(.int (1 : Int32))]) (rest := []) (lenOf pd__28I_29Z rfl) rfl (by show 2 * 0 + _ ≤ _; exact Nat.le_of_eq rfl) (hb hby at_171) (fun _ _ => ⟨rfl, rfl, (by decide : 11 + 0 ≤ _), (by decide : 69 + 0 ≤ _)⟩)
    dsimp only [Pt.U, Pt.locs, Pt.cells, Pt.slots] at X69 l69 y69 z69 st69 hQ69
    subst y69 z69
    obtain ⟨rfl, N69q, R69⟩ := hQ69
    have N69 : Fr n0 L69 := by rw [l69]; exact Fr.app N64 N69q
    replace R69 : Rep Z n0 T69.heap ((b33, Obj "com/example/witgen/witgen/regex/Partition" [("elements", "[I", (.ref b136)), ("location", "[I", (.ref b236)), ("blockOf", "[I", (.ref b336)), ("start", "[I", (.ref b436)), ("end", "[I", (.ref b536)), ("marked", "[I", (.ref b636)), ("touched", "[I", (.ref b736)), ("blocks", "I", (.int (Int32.ofNat cn))), ("touchedCount", "I", (.int (Int32.ofNat (mTc [y0, y1, y2, y3] (List.replicate (max [y0, y1, y2, y3].length cn) 0) 0 mn))))]) :: (b236, Ar .int (nl (mLo [y0, y1, y2, y3] (pSt [y0, y1, y2, y3] cn) (pS4 [y0, y1, y2, y3] cn).1 (pS4 [y0, y1, y2, y3] cn).2.1 (List.replicate (max [y0, y1, y2, y3].length cn) 0) mn))) :: (b336, Ar .int (nl [y0, y1, y2, y3])) :: (b436, Ar .int (nl (pSt [y0, y1, y2, y3] cn))) :: (b4, Ar .int (nl [y0, y1, y2, y3])) :: (b136, Ar .int (nl (mEl [y0, y1, y2, y3] (pSt [y0, y1, y2, y3] cn) (pS4 [y0, y1, y2, y3] cn).1 (pS4 [y0, y1, y2, y3] cn).2.1 (List.replicate (max [y0, y1, y2, y3].length cn) 0) mn))) :: (b636, Ar .int (nl (mMk [y0, y1, y2, y3] (List.replicate (max [y0, y1, y2, y3].length cn) 0) mn))) :: (b736, Ar .int (nl (mTo [y0, y1, y2, y3] (List.replicate (max [y0, y1, y2, y3].length cn) 0) (List.replicate (max [y0, y1, y2, y3].length cn) 0) 0 mn))) :: (b536, Ar .int (nl (pEn [y0, y1, y2, y3] cn))) :: (b19, Ar .int (nl [y0, y1, y2, y3])) :: []) := R69
    have pre74 : ∀ t, Steps p.tables e below (T69.setTop (mkF m 174 #[.val (.int xa), .val (.int xb), .val (.int xc), .val (.int xd), .val (.int xn), .val (.int xs), .val (.int (Int32.ofNat cn)), .val (.ref b4), .val (.ref b19), .val (.ref b33), .val (.int (1 : Int32)), .val (.int (Int32.ofNat mn)), .val (.int (1 : Int32)), .unset, .unset, .unset] [(.int (F7 1 (mLo [y0, y1, y2, y3] (pSt [y0, y1, y2, y3] cn) (pS4 [y0, y1, y2, y3] cn).1 (pS4 [y0, y1, y2, y3] cn).2.1 (List.replicate (max [y0, y1, y2, y3].length cn) 0) mn) [y0, y1, y2, y3] (pSt [y0, y1, y2, y3] cn)))])) t → Steps p.tables e below (s₁.setTop (entryFrame m #[(.int xa), (.int xb), (.int xc), (.int xd), (.int xn), (.int xs)] maxLocals)) t := fun t k => pre68 t (st69.trans k)
    have pre75 : ∀ t, Steps p.tables e below (T69.setTop (mkF m 181 #[.val (.int xa), .val (.int xb), .val (.int xc), .val (.int xd), .val (.int xn), .val (.int xs), .val (.int (Int32.ofNat cn)), .val (.ref b4), .val (.ref b19), .val (.ref b33), .val (.int (1 : Int32)), .val (.int (Int32.ofNat mn)), .val (.int (1 : Int32)), .unset, .unset, .unset] [(.int (1 : Int32)), (.int (Int32.ofNat mn)), (.int (1 : Int32)), (.ref b4), (.int (F7 1 (mLo [y0, y1, y2, y3] (pSt [y0, y1, y2, y3] cn) (pS4 [y0, y1, y2, y3] cn).1 (pS4 [y0, y1, y2, y3] cn).2.1 (List.replicate (max [y0, y1, y2, y3].length cn) 0) mn) [y0, y1, y2, y3] (pSt [y0, y1, y2, y3] cn)))])) t → Steps p.tables e below (s₁.setTop (entryFrame m #[(.int xa), (.int xb), (.int xc), (.int xd), (.int xn), (.int xs)] maxLocals)) t := fun t k => pre74 t (by
      show Steps p.tables e below (T69.setTop (mkF m 174 #[.val (.int xa), .val (.int xb), .val (.int xc), .val (.int xd), .val (.int xn), .val (.int xs), .val (.int (Int32.ofNat cn)), .val (.ref b4), .val (.ref b19), .val (.ref b33), .val (.int (1 : Int32)), .val (.int (Int32.ofNat mn)), .val (.int (1 : Int32)), .unset, .unset, .unset] [(.int (F7 1 (mLo [y0, y1, y2, y3] (pSt [y0, y1, y2, y3] cn) (pS4 [y0, y1, y2, y3] cn).1 (pS4 [y0, y1, y2, y3] cn).2.1 (List.replicate (max [y0, y1, y2, y3].length cn) 0) mn) [y0, y1, y2, y3] (pSt [y0, y1, y2, y3] cn)))])) _
      refine XS.aload X69.here hx rfl (hb hby at_174) rfl rfl ?_
      refine XS.iconst X69.here hx rfl (hb hby at_176) ?_
      refine XS.iload X69.here hx rfl (hb hby at_177) rfl ?_
      refine XS.iload X69.here hx rfl (hb hby at_179) rfl ?_
      exact k)
    have R77 : Rep Z n0 T69.heap ((b4, Ar .int (nl [y0, y1, y2, y3])) :: (b33, Obj "com/example/witgen/witgen/regex/Partition" [("elements", "[I", (.ref b136)), ("location", "[I", (.ref b236)), ("blockOf", "[I", (.ref b336)), ("start", "[I", (.ref b436)), ("end", "[I", (.ref b536)), ("marked", "[I", (.ref b636)), ("touched", "[I", (.ref b736)), ("blocks", "I", (.int (Int32.ofNat cn))), ("touchedCount", "I", (.int (Int32.ofNat (mTc [y0, y1, y2, y3] (List.replicate (max [y0, y1, y2, y3].length cn) 0) 0 mn))))]) :: (b236, Ar .int (nl (mLo [y0, y1, y2, y3] (pSt [y0, y1, y2, y3] cn) (pS4 [y0, y1, y2, y3] cn).1 (pS4 [y0, y1, y2, y3] cn).2.1 (List.replicate (max [y0, y1, y2, y3].length cn) 0) mn))) :: (b336, Ar .int (nl [y0, y1, y2, y3])) :: (b436, Ar .int (nl (pSt [y0, y1, y2, y3] cn))) :: (b136, Ar .int (nl (mEl [y0, y1, y2, y3] (pSt [y0, y1, y2, y3] cn) (pS4 [y0, y1, y2, y3] cn).1 (pS4 [y0, y1, y2, y3] cn).2.1 (List.replicate (max [y0, y1, y2, y3].length cn) 0) mn))) :: (b636, Ar .int (nl (mMk [y0, y1, y2, y3] (List.replicate (max [y0, y1, y2, y3].length cn) 0) mn))) :: (b736, Ar .int (nl (mTo [y0, y1, y2, y3] (List.replicate (max [y0, y1, y2, y3].length cn) 0) (List.replicate (max [y0, y1, y2, y3].length cn) 0) 0 mn))) :: (b536, Ar .int (nl (pEn [y0, y1, y2, y3] cn))) :: (b19, Ar .int (nl [y0, y1, y2, y3])) :: []) := R69.front 4 rfl rfl
    obtain ⟨_, _, ⟨T76, L76, k76, n76⟩, -, X76, ⟨Lc76, hQ76, l76, y76, z76⟩, st76⟩ := Jvm.LawKit.callS X69 hx (y := (⟨"com/example/witgen/witgen/regex/PartitionIsFirstOfBlockPinLaw", "firstRef", "([IIIZ)Z"⟩ : MethodName)) hown (mvT hZ (hw _ (List.mem_of_getElem? (i := 63) rfl))) (mvT hZ (hw _ (List.mem_of_getElem? (i := 64) rfl))) (mvT hZ (hw _ (List.mem_of_getElem? (i := 65) rfl))) (mvT hZ (hw _ (List.mem_of_getElem? (i := 66) rfl))) (by decide) (backOf (W := 1) (rm8 l Z a0 hw [] b4 1 mn (1 : Int32) _ T69.heap n0 _ R77 (show (1 : Nat) < 4 by decide) (by decide) (show (0 : Nat) < 4 by decide) (by decide) (show (1 : Nat) < 4 by decide) (by decide) (show (2 : Nat) < 4 by decide) (by decide) (by simpa using hm4) (by omega)) hZ (hw _ (List.mem_of_getElem? (i := 66) rfl)) (hw _ (List.mem_of_getElem? (i := 65) rfl)) (by decide) (by decide)) (g := (mkF m 181 #[.val (.int xa), .val (.int xb), .val (.int xc), .val (.int xd), .val (.int xn), .val (.int xs), .val (.int (Int32.ofNat cn)), .val (.ref b4), .val (.ref b19), .val (.ref b33), .val (.int (1 : Int32)), .val (.int (Int32.ofNat mn)), .val (.int (1 : Int32)), .unset, .unset, .unset] [(.int (1 : Int32)), (.int (Int32.ofNat mn)), (.int (1 : Int32)), (.ref b4), (.int (F7 1 (mLo [y0, y1, y2, y3] (pSt [y0, y1, y2, y3] cn) (pS4 [y0, y1, y2, y3] cn).1 (pS4 [y0, y1, y2, y3] cn).2.1 (List.replicate (max [y0, y1, y2, y3].length cn) 0) mn) [y0, y1, y2, y3] (pSt [y0, y1, y2, y3] cn)))])) rfl (by rw [hml]; rfl) (argsL := [(.ref b4), (.int (1 : Int32)), (.int (Int32.ofNat mn)), (.int (1 : Int32))]) (rest := [(.int (F7 1 (mLo [y0, y1, y2, y3] (pSt [y0, y1, y2, y3] cn) (pS4 [y0, y1, y2, y3] cn).1 (pS4 [y0, y1, y2, y3] cn).2.1 (List.replicate (max [y0, y1, y2, y3].length cn) 0) mn) [y0, y1, y2, y3] (pSt [y0, y1, y2, y3] cn)))]) (lenOf pd__28_5bIIIZ_29Z rfl) rfl (by show 2 * 0 + _ ≤ _; exact Nat.le_of_eq rfl) (hb hby at_181) (fun _ _ => ⟨rfl, rfl, (by decide : 11 + 0 ≤ _), (by decide : 69 + 0 ≤ _)⟩)
    dsimp only [Pt.U, Pt.locs, Pt.cells, Pt.slots] at X76 l76 y76 z76 st76 hQ76
    subst y76 z76
    obtain ⟨rfl, N76q, R76⟩ := hQ76
    have N76 : Fr n0 L76 := by rw [l76]; exact Fr.app N69 N76q
    replace R76 : Rep Z n0 T76.heap ((b4, Ar .int (nl [y0, y1, y2, y3])) :: (b33, Obj "com/example/witgen/witgen/regex/Partition" [("elements", "[I", (.ref b136)), ("location", "[I", (.ref b236)), ("blockOf", "[I", (.ref b336)), ("start", "[I", (.ref b436)), ("end", "[I", (.ref b536)), ("marked", "[I", (.ref b636)), ("touched", "[I", (.ref b736)), ("blocks", "I", (.int (Int32.ofNat cn))), ("touchedCount", "I", (.int (Int32.ofNat (mTc [y0, y1, y2, y3] (List.replicate (max [y0, y1, y2, y3].length cn) 0) 0 mn))))]) :: (b236, Ar .int (nl (mLo [y0, y1, y2, y3] (pSt [y0, y1, y2, y3] cn) (pS4 [y0, y1, y2, y3] cn).1 (pS4 [y0, y1, y2, y3] cn).2.1 (List.replicate (max [y0, y1, y2, y3].length cn) 0) mn))) :: (b336, Ar .int (nl [y0, y1, y2, y3])) :: (b436, Ar .int (nl (pSt [y0, y1, y2, y3] cn))) :: (b136, Ar .int (nl (mEl [y0, y1, y2, y3] (pSt [y0, y1, y2, y3] cn) (pS4 [y0, y1, y2, y3] cn).1 (pS4 [y0, y1, y2, y3] cn).2.1 (List.replicate (max [y0, y1, y2, y3].length cn) 0) mn))) :: (b636, Ar .int (nl (mMk [y0, y1, y2, y3] (List.replicate (max [y0, y1, y2, y3].length cn) 0) mn))) :: (b736, Ar .int (nl (mTo [y0, y1, y2, y3] (List.replicate (max [y0, y1, y2, y3].length cn) 0) (List.replicate (max [y0, y1, y2, y3].length cn) 0) 0 mn))) :: (b536, Ar .int (nl (pEn [y0, y1, y2, y3] cn))) :: (b19, Ar .int (nl [y0, y1, y2, y3])) :: []) := R76
    have pre78 : ∀ t, Steps p.tables e below (T76.setTop (mkF m 184 #[.val (.int xa), .val (.int xb), .val (.int xc), .val (.int xd), .val (.int xn), .val (.int xs), .val (.int (Int32.ofNat cn)), .val (.ref b4), .val (.ref b19), .val (.ref b33), .val (.int (1 : Int32)), .val (.int (Int32.ofNat mn)), .val (.int (1 : Int32)), .unset, .unset, .unset] [(.int (F8 1 mn (1 : Int32) [y0, y1, y2, y3])), (.int (F7 1 (mLo [y0, y1, y2, y3] (pSt [y0, y1, y2, y3] cn) (pS4 [y0, y1, y2, y3] cn).1 (pS4 [y0, y1, y2, y3] cn).2.1 (List.replicate (max [y0, y1, y2, y3].length cn) 0) mn) [y0, y1, y2, y3] (pSt [y0, y1, y2, y3] cn)))])) t → Steps p.tables e below (s₁.setTop (entryFrame m #[(.int xa), (.int xb), (.int xc), (.int xd), (.int xn), (.int xs)] maxLocals)) t := fun t k => pre75 t (st76 t k)
    have hb79 : (F7 1 (mLo [y0, y1, y2, y3] (pSt [y0, y1, y2, y3] cn) (pS4 [y0, y1, y2, y3] cn).1 (pS4 [y0, y1, y2, y3] cn).2.1 (List.replicate (max [y0, y1, y2, y3].length cn) 0) mn) [y0, y1, y2, y3] (pSt [y0, y1, y2, y3] cn)) = (F8 1 mn (1 : Int32) [y0, y1, y2, y3]) := (okB.parts (hB mn hm4)).2.2 1 (by decide)
    have pre80 : ∀ t, Steps p.tables e below (T76.setTop (mkF m 197 #[.val (.int xa), .val (.int xb), .val (.int xc), .val (.int xd), .val (.int xn), .val (.int xs), .val (.int (Int32.ofNat cn)), .val (.ref b4), .val (.ref b19), .val (.ref b33), .val (.int (1 : Int32)), .val (.int (Int32.ofNat mn)), .val (.int (1 : Int32)), .val (.int (1 : Int32)), .unset, .unset] [(.int (2 : Int32)), (.ref b33)])) t → Steps p.tables e below (s₁.setTop (entryFrame m #[(.int xa), (.int xb), (.int xc), (.int xd), (.int xn), (.int xs)] maxLocals)) t := fun t k => pre78 t (by
      show Steps p.tables e below (T76.setTop (mkF m 184 #[.val (.int xa), .val (.int xb), .val (.int xc), .val (.int xd), .val (.int xn), .val (.int xs), .val (.int (Int32.ofNat cn)), .val (.ref b4), .val (.ref b19), .val (.ref b33), .val (.int (1 : Int32)), .val (.int (Int32.ofNat mn)), .val (.int (1 : Int32)), .unset, .unset, .unset] [(.int (F8 1 mn (1 : Int32) [y0, y1, y2, y3])), (.int (F7 1 (mLo [y0, y1, y2, y3] (pSt [y0, y1, y2, y3] cn) (pS4 [y0, y1, y2, y3] cn).1 (pS4 [y0, y1, y2, y3] cn).2.1 (List.replicate (max [y0, y1, y2, y3].length cn) 0) mn) [y0, y1, y2, y3] (pSt [y0, y1, y2, y3] cn)))])) _
      refine XS.icmpNo X76.here hx rfl (hb hby at_184) rfl (teq hb79).2 ?_
      refine XS.iconst X76.here hx rfl (hb hby at_187) ?_
      refine XS.goto X76.here hx rfl (pc0 := 188) (pc' := 192) rfl (hb hby at_188) (by decide) (by decide) ?_
      refine XS.istore X76.here hx rfl (hb hby at_192) rfl (l' := #[.val (.int xa), .val (.int xb), .val (.int xc), .val (.int xd), .val (.int xn), .val (.int xs), .val (.int (Int32.ofNat cn)), .val (.ref b4), .val (.ref b19), .val (.ref b33), .val (.int (1 : Int32)), .val (.int (Int32.ofNat mn)), .val (.int (1 : Int32)), .val (.int (1 : Int32)), .unset, .unset]) rfl ?_
      refine XS.aload X76.here hx rfl (hb hby at_194) rfl rfl ?_
      refine XS.iconst X76.here hx rfl (hb hby at_196) ?_
      exact k)
    have R82 : Rep Z n0 T76.heap ((b436, Ar .int (nl (pSt [y0, y1, y2, y3] cn))) :: (b4, Ar .int (nl [y0, y1, y2, y3])) :: (b33, Obj "com/example/witgen/witgen/regex/Partition" [("elements", "[I", (.ref b136)), ("location", "[I", (.ref b236)), ("blockOf", "[I", (.ref b336)), ("start", "[I", (.ref b436)), ("end", "[I", (.ref b536)), ("marked", "[I", (.ref b636)), ("touched", "[I", (.ref b736)), ("blocks", "I", (.int (Int32.ofNat cn))), ("touchedCount", "I", (.int (Int32.ofNat (mTc [y0, y1, y2, y3] (List.replicate (max [y0, y1, y2, y3].length cn) 0) 0 mn))))]) :: (b236, Ar .int (nl (mLo [y0, y1, y2, y3] (pSt [y0, y1, y2, y3] cn) (pS4 [y0, y1, y2, y3] cn).1 (pS4 [y0, y1, y2, y3] cn).2.1 (List.replicate (max [y0, y1, y2, y3].length cn) 0) mn))) :: (b336, Ar .int (nl [y0, y1, y2, y3])) :: (b136, Ar .int (nl (mEl [y0, y1, y2, y3] (pSt [y0, y1, y2, y3] cn) (pS4 [y0, y1, y2, y3] cn).1 (pS4 [y0, y1, y2, y3] cn).2.1 (List.replicate (max [y0, y1, y2, y3].length cn) 0) mn))) :: (b636, Ar .int (nl (mMk [y0, y1, y2, y3] (List.replicate (max [y0, y1, y2, y3].length cn) 0) mn))) :: (b736, Ar .int (nl (mTo [y0, y1, y2, y3] (List.replicate (max [y0, y1, y2, y3].length cn) 0) (List.replicate (max [y0, y1, y2, y3].length cn) 0) 0 mn))) :: (b536, Ar .int (nl (pEn [y0, y1, y2, y3] cn))) :: (b19, Ar .int (nl [y0, y1, y2, y3])) :: []) := R76.front 4 rfl rfl
    have R83 : Rep Z n0 T76.heap ((b336, Ar .int (nl [y0, y1, y2, y3])) :: (b436, Ar .int (nl (pSt [y0, y1, y2, y3] cn))) :: (b4, Ar .int (nl [y0, y1, y2, y3])) :: (b33, Obj "com/example/witgen/witgen/regex/Partition" [("elements", "[I", (.ref b136)), ("location", "[I", (.ref b236)), ("blockOf", "[I", (.ref b336)), ("start", "[I", (.ref b436)), ("end", "[I", (.ref b536)), ("marked", "[I", (.ref b636)), ("touched", "[I", (.ref b736)), ("blocks", "I", (.int (Int32.ofNat cn))), ("touchedCount", "I", (.int (Int32.ofNat (mTc [y0, y1, y2, y3] (List.replicate (max [y0, y1, y2, y3].length cn) 0) 0 mn))))]) :: (b236, Ar .int (nl (mLo [y0, y1, y2, y3] (pSt [y0, y1, y2, y3] cn) (pS4 [y0, y1, y2, y3] cn).1 (pS4 [y0, y1, y2, y3] cn).2.1 (List.replicate (max [y0, y1, y2, y3].length cn) 0) mn))) :: (b136, Ar .int (nl (mEl [y0, y1, y2, y3] (pSt [y0, y1, y2, y3] cn) (pS4 [y0, y1, y2, y3] cn).1 (pS4 [y0, y1, y2, y3] cn).2.1 (List.replicate (max [y0, y1, y2, y3].length cn) 0) mn))) :: (b636, Ar .int (nl (mMk [y0, y1, y2, y3] (List.replicate (max [y0, y1, y2, y3].length cn) 0) mn))) :: (b736, Ar .int (nl (mTo [y0, y1, y2, y3] (List.replicate (max [y0, y1, y2, y3].length cn) 0) (List.replicate (max [y0, y1, y2, y3].length cn) 0) 0 mn))) :: (b536, Ar .int (nl (pEn [y0, y1, y2, y3] cn))) :: (b19, Ar .int (nl [y0, y1, y2, y3])) :: []) := R82.front 4 rfl rfl
    have R84 : Rep Z n0 T76.heap ((b236, Ar .int (nl (mLo [y0, y1, y2, y3] (pSt [y0, y1, y2, y3] cn) (pS4 [y0, y1, y2, y3] cn).1 (pS4 [y0, y1, y2, y3] cn).2.1 (List.replicate (max [y0, y1, y2, y3].length cn) 0) mn))) :: (b336, Ar .int (nl [y0, y1, y2, y3])) :: (b436, Ar .int (nl (pSt [y0, y1, y2, y3] cn))) :: (b4, Ar .int (nl [y0, y1, y2, y3])) :: (b33, Obj "com/example/witgen/witgen/regex/Partition" [("elements", "[I", (.ref b136)), ("location", "[I", (.ref b236)), ("blockOf", "[I", (.ref b336)), ("start", "[I", (.ref b436)), ("end", "[I", (.ref b536)), ("marked", "[I", (.ref b636)), ("touched", "[I", (.ref b736)), ("blocks", "I", (.int (Int32.ofNat cn))), ("touchedCount", "I", (.int (Int32.ofNat (mTc [y0, y1, y2, y3] (List.replicate (max [y0, y1, y2, y3].length cn) 0) 0 mn))))]) :: (b136, Ar .int (nl (mEl [y0, y1, y2, y3] (pSt [y0, y1, y2, y3] cn) (pS4 [y0, y1, y2, y3] cn).1 (pS4 [y0, y1, y2, y3] cn).2.1 (List.replicate (max [y0, y1, y2, y3].length cn) 0) mn))) :: (b636, Ar .int (nl (mMk [y0, y1, y2, y3] (List.replicate (max [y0, y1, y2, y3].length cn) 0) mn))) :: (b736, Ar .int (nl (mTo [y0, y1, y2, y3] (List.replicate (max [y0, y1, y2, y3].length cn) 0) (List.replicate (max [y0, y1, y2, y3].length cn) 0) 0 mn))) :: (b536, Ar .int (nl (pEn [y0, y1, y2, y3] cn))) :: (b19, Ar .int (nl [y0, y1, y2, y3])) :: []) := R83.front 4 rfl rfl
    have R85 : Rep Z n0 T76.heap ((b33, Obj "com/example/witgen/witgen/regex/Partition" [("elements", "[I", (.ref b136)), ("location", "[I", (.ref b236)), ("blockOf", "[I", (.ref b336)), ("start", "[I", (.ref b436)), ("end", "[I", (.ref b536)), ("marked", "[I", (.ref b636)), ("touched", "[I", (.ref b736)), ("blocks", "I", (.int (Int32.ofNat cn))), ("touchedCount", "I", (.int (Int32.ofNat (mTc [y0, y1, y2, y3] (List.replicate (max [y0, y1, y2, y3].length cn) 0) 0 mn))))]) :: (b236, Ar .int (nl (mLo [y0, y1, y2, y3] (pSt [y0, y1, y2, y3] cn) (pS4 [y0, y1, y2, y3] cn).1 (pS4 [y0, y1, y2, y3] cn).2.1 (List.replicate (max [y0, y1, y2, y3].length cn) 0) mn))) :: (b336, Ar .int (nl [y0, y1, y2, y3])) :: (b436, Ar .int (nl (pSt [y0, y1, y2, y3] cn))) :: (b4, Ar .int (nl [y0, y1, y2, y3])) :: (b136, Ar .int (nl (mEl [y0, y1, y2, y3] (pSt [y0, y1, y2, y3] cn) (pS4 [y0, y1, y2, y3] cn).1 (pS4 [y0, y1, y2, y3] cn).2.1 (List.replicate (max [y0, y1, y2, y3].length cn) 0) mn))) :: (b636, Ar .int (nl (mMk [y0, y1, y2, y3] (List.replicate (max [y0, y1, y2, y3].length cn) 0) mn))) :: (b736, Ar .int (nl (mTo [y0, y1, y2, y3] (List.replicate (max [y0, y1, y2, y3].length cn) 0) (List.replicate (max [y0, y1, y2, y3].length cn) 0) 0 mn))) :: (b536, Ar .int (nl (pEn [y0, y1, y2, y3] cn))) :: (b19, Ar .int (nl [y0, y1, y2, y3])) :: []) := R84.front 4 rfl rfl
    obtain ⟨cq81, kq81, q81a, q81b, q81c⟩ := isOf hZ rfl (R85.exa (i := 0) rfl)
    obtain ⟨_, _, ⟨T81, L81, k81, n81⟩, -, X81, ⟨Lc81, hQ81, l81, y81, z81⟩, st81⟩ := X76.virtualBack hx (y := (⟨"com/example/witgen/witgen/regex/Partition", "isFirstOfBlock", "(I)Z"⟩ : MethodName)) (z := (⟨"com/example/witgen/witgen/regex/Partition", "isFirstOfBlock", "(I)Z"⟩ : MethodName)) hown (mvT hZ (hw _ (List.mem_of_getElem? (i := 58) rfl))) (mvT hZ (hw _ (List.mem_of_getElem? (i := 59) rfl))) (notFace_of_selects (args := #[]) (mvT hZ (hw _ (List.mem_of_getElem? (i := 61) rfl)))) (mvT hZ (hw _ (List.mem_of_getElem? (i := 61) rfl))) (mvT hZ (hw _ (List.mem_of_getElem? (i := 60) rfl))) (by decide) (backOf (W := 0) (rm7 l Z a0 hw [] b33 2 _ _ _ _ _ _ _ _ _ _ _ _ T76.heap n0 _ R85 (Nat.lt_of_lt_of_eq (show (2 : Nat) < 4 by decide) ((okB.parts (hB mn hm4)).2.1).symm) (by decide) (show (2 : Nat) < 4 by decide) (by decide) (Nat.lt_of_lt_of_le (own_el (i := 2) rfl ha0 ha1 ha2 ha3 (by decide)) hp.2.2.1) (Nat.lt_of_lt_of_le (own_el (i := 2) rfl ha0 ha1 ha2 ha3 (by decide)) (by omega))) hZ (hw _ (List.mem_of_getElem? (i := 62) rfl)) (hw _ (List.mem_of_getElem? (i := 4) rfl)) (by decide) (by decide)) q81a q81c (g := (mkF m 197 #[.val (.int xa), .val (.int xb), .val (.int xc), .val (.int xd), .val (.int xn), .val (.int xs), .val (.int (Int32.ofNat cn)), .val (.ref b4), .val (.ref b19), .val (.ref b33), .val (.int (1 : Int32)), .val (.int (Int32.ofNat mn)), .val (.int (1 : Int32)), .val (.int (1 : Int32)), .unset, .unset] [(.int (2 : Int32)), (.ref b33)])) rfl (by rw [hml]; rfl) (Steps.refl _) (argsL := [(.int (2 : Int32))]) (rest := []) (lenOf pd__28I_29Z rfl) rfl (by show 2 * 0 + _ ≤ _; exact Nat.le_of_eq rfl) (hb hby at_197) (fun _ _ => ⟨rfl, rfl, (by decide : 11 + 0 ≤ _), (by decide : 69 + 0 ≤ _)⟩)
    dsimp only [Pt.U, Pt.locs, Pt.cells, Pt.slots] at X81 l81 y81 z81 st81 hQ81
    subst y81 z81
    obtain ⟨rfl, N81q, R81⟩ := hQ81
    have N81 : Fr n0 L81 := by rw [l81]; exact Fr.app N76 N81q
    replace R81 : Rep Z n0 T81.heap ((b33, Obj "com/example/witgen/witgen/regex/Partition" [("elements", "[I", (.ref b136)), ("location", "[I", (.ref b236)), ("blockOf", "[I", (.ref b336)), ("start", "[I", (.ref b436)), ("end", "[I", (.ref b536)), ("marked", "[I", (.ref b636)), ("touched", "[I", (.ref b736)), ("blocks", "I", (.int (Int32.ofNat cn))), ("touchedCount", "I", (.int (Int32.ofNat (mTc [y0, y1, y2, y3] (List.replicate (max [y0, y1, y2, y3].length cn) 0) 0 mn))))]) :: (b236, Ar .int (nl (mLo [y0, y1, y2, y3] (pSt [y0, y1, y2, y3] cn) (pS4 [y0, y1, y2, y3] cn).1 (pS4 [y0, y1, y2, y3] cn).2.1 (List.replicate (max [y0, y1, y2, y3].length cn) 0) mn))) :: (b336, Ar .int (nl [y0, y1, y2, y3])) :: (b436, Ar .int (nl (pSt [y0, y1, y2, y3] cn))) :: (b4, Ar .int (nl [y0, y1, y2, y3])) :: (b136, Ar .int (nl (mEl [y0, y1, y2, y3] (pSt [y0, y1, y2, y3] cn) (pS4 [y0, y1, y2, y3] cn).1 (pS4 [y0, y1, y2, y3] cn).2.1 (List.replicate (max [y0, y1, y2, y3].length cn) 0) mn))) :: (b636, Ar .int (nl (mMk [y0, y1, y2, y3] (List.replicate (max [y0, y1, y2, y3].length cn) 0) mn))) :: (b736, Ar .int (nl (mTo [y0, y1, y2, y3] (List.replicate (max [y0, y1, y2, y3].length cn) 0) (List.replicate (max [y0, y1, y2, y3].length cn) 0) 0 mn))) :: (b536, Ar .int (nl (pEn [y0, y1, y2, y3] cn))) :: (b19, Ar .int (nl [y0, y1, y2, y3])) :: []) := R81
    have pre86 : ∀ t, Steps p.tables e below (T81.setTop (mkF m 200 #[.val (.int xa), .val (.int xb), .val (.int xc), .val (.int xd), .val (.int xn), .val (.int xs), .val (.int (Int32.ofNat cn)), .val (.ref b4), .val (.ref b19), .val (.ref b33), .val (.int (1 : Int32)), .val (.int (Int32.ofNat mn)), .val (.int (1 : Int32)), .val (.int (1 : Int32)), .unset, .unset] [(.int (F7 2 (mLo [y0, y1, y2, y3] (pSt [y0, y1, y2, y3] cn) (pS4 [y0, y1, y2, y3] cn).1 (pS4 [y0, y1, y2, y3] cn).2.1 (List.replicate (max [y0, y1, y2, y3].length cn) 0) mn) [y0, y1, y2, y3] (pSt [y0, y1, y2, y3] cn)))])) t → Steps p.tables e below (s₁.setTop (entryFrame m #[(.int xa), (.int xb), (.int xc), (.int xd), (.int xn), (.int xs)] maxLocals)) t := fun t k => pre80 t (st81.trans k)
    have pre87 : ∀ t, Steps p.tables e below (T81.setTop (mkF m 207 #[.val (.int xa), .val (.int xb), .val (.int xc), .val (.int xd), .val (.int xn), .val (.int xs), .val (.int (Int32.ofNat cn)), .val (.ref b4), .val (.ref b19), .val (.ref b33), .val (.int (1 : Int32)), .val (.int (Int32.ofNat mn)), .val (.int (1 : Int32)), .val (.int (1 : Int32)), .unset, .unset] [(.int (1 : Int32)), (.int (Int32.ofNat mn)), (.int (2 : Int32)), (.ref b4), (.int (F7 2 (mLo [y0, y1, y2, y3] (pSt [y0, y1, y2, y3] cn) (pS4 [y0, y1, y2, y3] cn).1 (pS4 [y0, y1, y2, y3] cn).2.1 (List.replicate (max [y0, y1, y2, y3].length cn) 0) mn) [y0, y1, y2, y3] (pSt [y0, y1, y2, y3] cn)))])) t → Steps p.tables e below (s₁.setTop (entryFrame m #[(.int xa), (.int xb), (.int xc), (.int xd), (.int xn), (.int xs)] maxLocals)) t := fun t k => pre86 t (by
      show Steps p.tables e below (T81.setTop (mkF m 200 #[.val (.int xa), .val (.int xb), .val (.int xc), .val (.int xd), .val (.int xn), .val (.int xs), .val (.int (Int32.ofNat cn)), .val (.ref b4), .val (.ref b19), .val (.ref b33), .val (.int (1 : Int32)), .val (.int (Int32.ofNat mn)), .val (.int (1 : Int32)), .val (.int (1 : Int32)), .unset, .unset] [(.int (F7 2 (mLo [y0, y1, y2, y3] (pSt [y0, y1, y2, y3] cn) (pS4 [y0, y1, y2, y3] cn).1 (pS4 [y0, y1, y2, y3] cn).2.1 (List.replicate (max [y0, y1, y2, y3].length cn) 0) mn) [y0, y1, y2, y3] (pSt [y0, y1, y2, y3] cn)))])) _
      refine XS.aload X81.here hx rfl (hb hby at_200) rfl rfl ?_
      refine XS.iconst X81.here hx rfl (hb hby at_202) ?_
      refine XS.iload X81.here hx rfl (hb hby at_203) rfl ?_
      refine XS.iload X81.here hx rfl (hb hby at_205) rfl ?_
      exact k)
    have R89 : Rep Z n0 T81.heap ((b4, Ar .int (nl [y0, y1, y2, y3])) :: (b33, Obj "com/example/witgen/witgen/regex/Partition" [("elements", "[I", (.ref b136)), ("location", "[I", (.ref b236)), ("blockOf", "[I", (.ref b336)), ("start", "[I", (.ref b436)), ("end", "[I", (.ref b536)), ("marked", "[I", (.ref b636)), ("touched", "[I", (.ref b736)), ("blocks", "I", (.int (Int32.ofNat cn))), ("touchedCount", "I", (.int (Int32.ofNat (mTc [y0, y1, y2, y3] (List.replicate (max [y0, y1, y2, y3].length cn) 0) 0 mn))))]) :: (b236, Ar .int (nl (mLo [y0, y1, y2, y3] (pSt [y0, y1, y2, y3] cn) (pS4 [y0, y1, y2, y3] cn).1 (pS4 [y0, y1, y2, y3] cn).2.1 (List.replicate (max [y0, y1, y2, y3].length cn) 0) mn))) :: (b336, Ar .int (nl [y0, y1, y2, y3])) :: (b436, Ar .int (nl (pSt [y0, y1, y2, y3] cn))) :: (b136, Ar .int (nl (mEl [y0, y1, y2, y3] (pSt [y0, y1, y2, y3] cn) (pS4 [y0, y1, y2, y3] cn).1 (pS4 [y0, y1, y2, y3] cn).2.1 (List.replicate (max [y0, y1, y2, y3].length cn) 0) mn))) :: (b636, Ar .int (nl (mMk [y0, y1, y2, y3] (List.replicate (max [y0, y1, y2, y3].length cn) 0) mn))) :: (b736, Ar .int (nl (mTo [y0, y1, y2, y3] (List.replicate (max [y0, y1, y2, y3].length cn) 0) (List.replicate (max [y0, y1, y2, y3].length cn) 0) 0 mn))) :: (b536, Ar .int (nl (pEn [y0, y1, y2, y3] cn))) :: (b19, Ar .int (nl [y0, y1, y2, y3])) :: []) := R81.front 4 rfl rfl
    obtain ⟨_, _, ⟨T88, L88, k88, n88⟩, -, X88, ⟨Lc88, hQ88, l88, y88, z88⟩, st88⟩ := Jvm.LawKit.callS X81 hx (y := (⟨"com/example/witgen/witgen/regex/PartitionIsFirstOfBlockPinLaw", "firstRef", "([IIIZ)Z"⟩ : MethodName)) hown (mvT hZ (hw _ (List.mem_of_getElem? (i := 63) rfl))) (mvT hZ (hw _ (List.mem_of_getElem? (i := 64) rfl))) (mvT hZ (hw _ (List.mem_of_getElem? (i := 65) rfl))) (mvT hZ (hw _ (List.mem_of_getElem? (i := 66) rfl))) (by decide) (backOf (W := 1) (rm8 l Z a0 hw [] b4 2 mn (1 : Int32) _ T81.heap n0 _ R89 (show (2 : Nat) < 4 by decide) (by decide) (show (0 : Nat) < 4 by decide) (by decide) (show (1 : Nat) < 4 by decide) (by decide) (show (2 : Nat) < 4 by decide) (by decide) (by simpa using hm4) (by omega)) hZ (hw _ (List.mem_of_getElem? (i := 66) rfl)) (hw _ (List.mem_of_getElem? (i := 65) rfl)) (by decide) (by decide)) (g := (mkF m 207 #[.val (.int xa), .val (.int xb), .val (.int xc), .val (.int xd), .val (.int xn), .val (.int xs), .val (.int (Int32.ofNat cn)), .val (.ref b4), .val (.ref b19), .val (.ref b33), .val (.int (1 : Int32)), .val (.int (Int32.ofNat mn)), .val (.int (1 : Int32)), .val (.int (1 : Int32)), .unset, .unset] [(.int (1 : Int32)), (.int (Int32.ofNat mn)), (.int (2 : Int32)), (.ref b4), (.int (F7 2 (mLo [y0, y1, y2, y3] (pSt [y0, y1, y2, y3] cn) (pS4 [y0, y1, y2, y3] cn).1 (pS4 [y0, y1, y2, y3] cn).2.1 (List.replicate (max [y0, y1, y2, y3].length cn) 0) mn) [y0, y1, y2, y3] (pSt [y0, y1, y2, y3] cn)))])) rfl (by rw [hml]; rfl) (argsL := [(.ref b4), (.int (2 : Int32)), (.int (Int32.ofNat mn)), (.int (1 : Int32))]) (rest := [(.int (F7 2 (mLo [y0, y1, y2, y3] (pSt [y0, y1, y2, y3] cn) (pS4 [y0, y1, y2, y3] cn).1 (pS4 [y0, y1, y2, y3] cn).2.1 (List.replicate (max [y0, y1, y2, y3].length cn) 0) mn) [y0, y1, y2, y3] (pSt [y0, y1, y2, y3] cn)))]) (lenOf pd__28_5bIIIZ_29Z rfl) rfl (by show 2 * 0 + _ ≤ _; exact Nat.le_of_eq rfl) (hb hby at_207) (fun _ _ => ⟨rfl, rfl, (by decide : 11 + 0 ≤ _), (by decide : 69 + 0 ≤ _)⟩)
    dsimp only [Pt.U, Pt.locs, Pt.cells, Pt.slots] at X88 l88 y88 z88 st88 hQ88
    subst y88 z88
    obtain ⟨rfl, N88q, R88⟩ := hQ88
    have N88 : Fr n0 L88 := by rw [l88]; exact Fr.app N81 N88q
    replace R88 : Rep Z n0 T88.heap ((b4, Ar .int (nl [y0, y1, y2, y3])) :: (b33, Obj "com/example/witgen/witgen/regex/Partition" [("elements", "[I", (.ref b136)), ("location", "[I", (.ref b236)), ("blockOf", "[I", (.ref b336)), ("start", "[I", (.ref b436)), ("end", "[I", (.ref b536)), ("marked", "[I", (.ref b636)), ("touched", "[I", (.ref b736)), ("blocks", "I", (.int (Int32.ofNat cn))), ("touchedCount", "I", (.int (Int32.ofNat (mTc [y0, y1, y2, y3] (List.replicate (max [y0, y1, y2, y3].length cn) 0) 0 mn))))]) :: (b236, Ar .int (nl (mLo [y0, y1, y2, y3] (pSt [y0, y1, y2, y3] cn) (pS4 [y0, y1, y2, y3] cn).1 (pS4 [y0, y1, y2, y3] cn).2.1 (List.replicate (max [y0, y1, y2, y3].length cn) 0) mn))) :: (b336, Ar .int (nl [y0, y1, y2, y3])) :: (b436, Ar .int (nl (pSt [y0, y1, y2, y3] cn))) :: (b136, Ar .int (nl (mEl [y0, y1, y2, y3] (pSt [y0, y1, y2, y3] cn) (pS4 [y0, y1, y2, y3] cn).1 (pS4 [y0, y1, y2, y3] cn).2.1 (List.replicate (max [y0, y1, y2, y3].length cn) 0) mn))) :: (b636, Ar .int (nl (mMk [y0, y1, y2, y3] (List.replicate (max [y0, y1, y2, y3].length cn) 0) mn))) :: (b736, Ar .int (nl (mTo [y0, y1, y2, y3] (List.replicate (max [y0, y1, y2, y3].length cn) 0) (List.replicate (max [y0, y1, y2, y3].length cn) 0) 0 mn))) :: (b536, Ar .int (nl (pEn [y0, y1, y2, y3] cn))) :: (b19, Ar .int (nl [y0, y1, y2, y3])) :: []) := R88
    have pre90 : ∀ t, Steps p.tables e below (T88.setTop (mkF m 210 #[.val (.int xa), .val (.int xb), .val (.int xc), .val (.int xd), .val (.int xn), .val (.int xs), .val (.int (Int32.ofNat cn)), .val (.ref b4), .val (.ref b19), .val (.ref b33), .val (.int (1 : Int32)), .val (.int (Int32.ofNat mn)), .val (.int (1 : Int32)), .val (.int (1 : Int32)), .unset, .unset] [(.int (F8 2 mn (1 : Int32) [y0, y1, y2, y3])), (.int (F7 2 (mLo [y0, y1, y2, y3] (pSt [y0, y1, y2, y3] cn) (pS4 [y0, y1, y2, y3] cn).1 (pS4 [y0, y1, y2, y3] cn).2.1 (List.replicate (max [y0, y1, y2, y3].length cn) 0) mn) [y0, y1, y2, y3] (pSt [y0, y1, y2, y3] cn)))])) t → Steps p.tables e below (s₁.setTop (entryFrame m #[(.int xa), (.int xb), (.int xc), (.int xd), (.int xn), (.int xs)] maxLocals)) t := fun t k => pre87 t (st88 t k)
    have hb91 : (F7 2 (mLo [y0, y1, y2, y3] (pSt [y0, y1, y2, y3] cn) (pS4 [y0, y1, y2, y3] cn).1 (pS4 [y0, y1, y2, y3] cn).2.1 (List.replicate (max [y0, y1, y2, y3].length cn) 0) mn) [y0, y1, y2, y3] (pSt [y0, y1, y2, y3] cn)) = (F8 2 mn (1 : Int32) [y0, y1, y2, y3]) := (okB.parts (hB mn hm4)).2.2 2 (by decide)
    have pre92 : ∀ t, Steps p.tables e below (T88.setTop (mkF m 223 #[.val (.int xa), .val (.int xb), .val (.int xc), .val (.int xd), .val (.int xn), .val (.int xs), .val (.int (Int32.ofNat cn)), .val (.ref b4), .val (.ref b19), .val (.ref b33), .val (.int (1 : Int32)), .val (.int (Int32.ofNat mn)), .val (.int (1 : Int32)), .val (.int (1 : Int32)), .val (.int (1 : Int32)), .unset] [(.int (3 : Int32)), (.ref b33)])) t → Steps p.tables e below (s₁.setTop (entryFrame m #[(.int xa), (.int xb), (.int xc), (.int xd), (.int xn), (.int xs)] maxLocals)) t := fun t k => pre90 t (by
      show Steps p.tables e below (T88.setTop (mkF m 210 #[.val (.int xa), .val (.int xb), .val (.int xc), .val (.int xd), .val (.int xn), .val (.int xs), .val (.int (Int32.ofNat cn)), .val (.ref b4), .val (.ref b19), .val (.ref b33), .val (.int (1 : Int32)), .val (.int (Int32.ofNat mn)), .val (.int (1 : Int32)), .val (.int (1 : Int32)), .unset, .unset] [(.int (F8 2 mn (1 : Int32) [y0, y1, y2, y3])), (.int (F7 2 (mLo [y0, y1, y2, y3] (pSt [y0, y1, y2, y3] cn) (pS4 [y0, y1, y2, y3] cn).1 (pS4 [y0, y1, y2, y3] cn).2.1 (List.replicate (max [y0, y1, y2, y3].length cn) 0) mn) [y0, y1, y2, y3] (pSt [y0, y1, y2, y3] cn)))])) _
      refine XS.icmpNo X88.here hx rfl (hb hby at_210) rfl (teq hb91).2 ?_
      refine XS.iconst X88.here hx rfl (hb hby at_213) ?_
      refine XS.goto X88.here hx rfl (pc0 := 214) (pc' := 218) rfl (hb hby at_214) (by decide) (by decide) ?_
      refine XS.istore X88.here hx rfl (hb hby at_218) rfl (l' := #[.val (.int xa), .val (.int xb), .val (.int xc), .val (.int xd), .val (.int xn), .val (.int xs), .val (.int (Int32.ofNat cn)), .val (.ref b4), .val (.ref b19), .val (.ref b33), .val (.int (1 : Int32)), .val (.int (Int32.ofNat mn)), .val (.int (1 : Int32)), .val (.int (1 : Int32)), .val (.int (1 : Int32)), .unset]) rfl ?_
      refine XS.aload X88.here hx rfl (hb hby at_220) rfl rfl ?_
      refine XS.iconst X88.here hx rfl (hb hby at_222) ?_
      exact k)
    have R94 : Rep Z n0 T88.heap ((b436, Ar .int (nl (pSt [y0, y1, y2, y3] cn))) :: (b4, Ar .int (nl [y0, y1, y2, y3])) :: (b33, Obj "com/example/witgen/witgen/regex/Partition" [("elements", "[I", (.ref b136)), ("location", "[I", (.ref b236)), ("blockOf", "[I", (.ref b336)), ("start", "[I", (.ref b436)), ("end", "[I", (.ref b536)), ("marked", "[I", (.ref b636)), ("touched", "[I", (.ref b736)), ("blocks", "I", (.int (Int32.ofNat cn))), ("touchedCount", "I", (.int (Int32.ofNat (mTc [y0, y1, y2, y3] (List.replicate (max [y0, y1, y2, y3].length cn) 0) 0 mn))))]) :: (b236, Ar .int (nl (mLo [y0, y1, y2, y3] (pSt [y0, y1, y2, y3] cn) (pS4 [y0, y1, y2, y3] cn).1 (pS4 [y0, y1, y2, y3] cn).2.1 (List.replicate (max [y0, y1, y2, y3].length cn) 0) mn))) :: (b336, Ar .int (nl [y0, y1, y2, y3])) :: (b136, Ar .int (nl (mEl [y0, y1, y2, y3] (pSt [y0, y1, y2, y3] cn) (pS4 [y0, y1, y2, y3] cn).1 (pS4 [y0, y1, y2, y3] cn).2.1 (List.replicate (max [y0, y1, y2, y3].length cn) 0) mn))) :: (b636, Ar .int (nl (mMk [y0, y1, y2, y3] (List.replicate (max [y0, y1, y2, y3].length cn) 0) mn))) :: (b736, Ar .int (nl (mTo [y0, y1, y2, y3] (List.replicate (max [y0, y1, y2, y3].length cn) 0) (List.replicate (max [y0, y1, y2, y3].length cn) 0) 0 mn))) :: (b536, Ar .int (nl (pEn [y0, y1, y2, y3] cn))) :: (b19, Ar .int (nl [y0, y1, y2, y3])) :: []) := R88.front 4 rfl rfl
    have R95 : Rep Z n0 T88.heap ((b336, Ar .int (nl [y0, y1, y2, y3])) :: (b436, Ar .int (nl (pSt [y0, y1, y2, y3] cn))) :: (b4, Ar .int (nl [y0, y1, y2, y3])) :: (b33, Obj "com/example/witgen/witgen/regex/Partition" [("elements", "[I", (.ref b136)), ("location", "[I", (.ref b236)), ("blockOf", "[I", (.ref b336)), ("start", "[I", (.ref b436)), ("end", "[I", (.ref b536)), ("marked", "[I", (.ref b636)), ("touched", "[I", (.ref b736)), ("blocks", "I", (.int (Int32.ofNat cn))), ("touchedCount", "I", (.int (Int32.ofNat (mTc [y0, y1, y2, y3] (List.replicate (max [y0, y1, y2, y3].length cn) 0) 0 mn))))]) :: (b236, Ar .int (nl (mLo [y0, y1, y2, y3] (pSt [y0, y1, y2, y3] cn) (pS4 [y0, y1, y2, y3] cn).1 (pS4 [y0, y1, y2, y3] cn).2.1 (List.replicate (max [y0, y1, y2, y3].length cn) 0) mn))) :: (b136, Ar .int (nl (mEl [y0, y1, y2, y3] (pSt [y0, y1, y2, y3] cn) (pS4 [y0, y1, y2, y3] cn).1 (pS4 [y0, y1, y2, y3] cn).2.1 (List.replicate (max [y0, y1, y2, y3].length cn) 0) mn))) :: (b636, Ar .int (nl (mMk [y0, y1, y2, y3] (List.replicate (max [y0, y1, y2, y3].length cn) 0) mn))) :: (b736, Ar .int (nl (mTo [y0, y1, y2, y3] (List.replicate (max [y0, y1, y2, y3].length cn) 0) (List.replicate (max [y0, y1, y2, y3].length cn) 0) 0 mn))) :: (b536, Ar .int (nl (pEn [y0, y1, y2, y3] cn))) :: (b19, Ar .int (nl [y0, y1, y2, y3])) :: []) := R94.front 4 rfl rfl
    have R96 : Rep Z n0 T88.heap ((b236, Ar .int (nl (mLo [y0, y1, y2, y3] (pSt [y0, y1, y2, y3] cn) (pS4 [y0, y1, y2, y3] cn).1 (pS4 [y0, y1, y2, y3] cn).2.1 (List.replicate (max [y0, y1, y2, y3].length cn) 0) mn))) :: (b336, Ar .int (nl [y0, y1, y2, y3])) :: (b436, Ar .int (nl (pSt [y0, y1, y2, y3] cn))) :: (b4, Ar .int (nl [y0, y1, y2, y3])) :: (b33, Obj "com/example/witgen/witgen/regex/Partition" [("elements", "[I", (.ref b136)), ("location", "[I", (.ref b236)), ("blockOf", "[I", (.ref b336)), ("start", "[I", (.ref b436)), ("end", "[I", (.ref b536)), ("marked", "[I", (.ref b636)), ("touched", "[I", (.ref b736)), ("blocks", "I", (.int (Int32.ofNat cn))), ("touchedCount", "I", (.int (Int32.ofNat (mTc [y0, y1, y2, y3] (List.replicate (max [y0, y1, y2, y3].length cn) 0) 0 mn))))]) :: (b136, Ar .int (nl (mEl [y0, y1, y2, y3] (pSt [y0, y1, y2, y3] cn) (pS4 [y0, y1, y2, y3] cn).1 (pS4 [y0, y1, y2, y3] cn).2.1 (List.replicate (max [y0, y1, y2, y3].length cn) 0) mn))) :: (b636, Ar .int (nl (mMk [y0, y1, y2, y3] (List.replicate (max [y0, y1, y2, y3].length cn) 0) mn))) :: (b736, Ar .int (nl (mTo [y0, y1, y2, y3] (List.replicate (max [y0, y1, y2, y3].length cn) 0) (List.replicate (max [y0, y1, y2, y3].length cn) 0) 0 mn))) :: (b536, Ar .int (nl (pEn [y0, y1, y2, y3] cn))) :: (b19, Ar .int (nl [y0, y1, y2, y3])) :: []) := R95.front 4 rfl rfl
    have R97 : Rep Z n0 T88.heap ((b33, Obj "com/example/witgen/witgen/regex/Partition" [("elements", "[I", (.ref b136)), ("location", "[I", (.ref b236)), ("blockOf", "[I", (.ref b336)), ("start", "[I", (.ref b436)), ("end", "[I", (.ref b536)), ("marked", "[I", (.ref b636)), ("touched", "[I", (.ref b736)), ("blocks", "I", (.int (Int32.ofNat cn))), ("touchedCount", "I", (.int (Int32.ofNat (mTc [y0, y1, y2, y3] (List.replicate (max [y0, y1, y2, y3].length cn) 0) 0 mn))))]) :: (b236, Ar .int (nl (mLo [y0, y1, y2, y3] (pSt [y0, y1, y2, y3] cn) (pS4 [y0, y1, y2, y3] cn).1 (pS4 [y0, y1, y2, y3] cn).2.1 (List.replicate (max [y0, y1, y2, y3].length cn) 0) mn))) :: (b336, Ar .int (nl [y0, y1, y2, y3])) :: (b436, Ar .int (nl (pSt [y0, y1, y2, y3] cn))) :: (b4, Ar .int (nl [y0, y1, y2, y3])) :: (b136, Ar .int (nl (mEl [y0, y1, y2, y3] (pSt [y0, y1, y2, y3] cn) (pS4 [y0, y1, y2, y3] cn).1 (pS4 [y0, y1, y2, y3] cn).2.1 (List.replicate (max [y0, y1, y2, y3].length cn) 0) mn))) :: (b636, Ar .int (nl (mMk [y0, y1, y2, y3] (List.replicate (max [y0, y1, y2, y3].length cn) 0) mn))) :: (b736, Ar .int (nl (mTo [y0, y1, y2, y3] (List.replicate (max [y0, y1, y2, y3].length cn) 0) (List.replicate (max [y0, y1, y2, y3].length cn) 0) 0 mn))) :: (b536, Ar .int (nl (pEn [y0, y1, y2, y3] cn))) :: (b19, Ar .int (nl [y0, y1, y2, y3])) :: []) := R96.front 4 rfl rfl
    obtain ⟨cq93, kq93, q93a, q93b, q93c⟩ := isOf hZ rfl (R97.exa (i := 0) rfl)
    obtain ⟨_, _, ⟨T93, L93, k93, n93⟩, -, X93, ⟨Lc93, hQ93, l93, y93, z93⟩, st93⟩ := X88.virtualBack hx (y := (⟨"com/example/witgen/witgen/regex/Partition", "isFirstOfBlock", "(I)Z"⟩ : MethodName)) (z := (⟨"com/example/witgen/witgen/regex/Partition", "isFirstOfBlock", "(I)Z"⟩ : MethodName)) hown (mvT hZ (hw _ (List.mem_of_getElem? (i := 58) rfl))) (mvT hZ (hw _ (List.mem_of_getElem? (i := 59) rfl))) (notFace_of_selects (args := #[]) (mvT hZ (hw _ (List.mem_of_getElem? (i := 61) rfl)))) (mvT hZ (hw _ (List.mem_of_getElem? (i := 61) rfl))) (mvT hZ (hw _ (List.mem_of_getElem? (i := 60) rfl))) (by decide) (backOf (W := 0) (rm7 l Z a0 hw [] b33 3 _ _ _ _ _ _ _ _ _ _ _ _ T88.heap n0 _ R97 (Nat.lt_of_lt_of_eq (show (3 : Nat) < 4 by decide) ((okB.parts (hB mn hm4)).2.1).symm) (by decide) (show (3 : Nat) < 4 by decide) (by decide) (Nat.lt_of_lt_of_le (own_el (i := 3) rfl ha0 ha1 ha2 ha3 (by decide)) hp.2.2.1) (Nat.lt_of_lt_of_le (own_el (i := 3) rfl ha0 ha1 ha2 ha3 (by decide)) (by omega))) hZ (hw _ (List.mem_of_getElem? (i := 62) rfl)) (hw _ (List.mem_of_getElem? (i := 4) rfl)) (by decide) (by decide)) q93a q93c (g := (mkF m 223 #[.val (.int xa), .val (.int xb), .val (.int xc), .val (.int xd), .val (.int xn), .val (.int xs), .val (.int (Int32.ofNat cn)), .val (.ref b4), .val (.ref b19), .val (.ref b33), .val (.int (1 : Int32)), .val (.int (Int32.ofNat mn)), .val (.int (1 : Int32)), .val (.int (1 : Int32)), .val (.int (1 : Int32)), .unset] [(.int (3 : Int32)), (.ref b33)])) rfl (by rw [hml]; rfl) (Steps.refl _) (argsL := [(.int (3 : Int32))]) (rest := []) (lenOf pd__28I_29Z rfl) rfl (by show 2 * 0 + _ ≤ _; exact Nat.le_of_eq rfl) (hb hby at_223) (fun _ _ => ⟨rfl, rfl, (by decide : 11 + 0 ≤ _), (by decide : 69 + 0 ≤ _)⟩)
    dsimp only [Pt.U, Pt.locs, Pt.cells, Pt.slots] at X93 l93 y93 z93 st93 hQ93
    subst y93 z93
    obtain ⟨rfl, N93q, R93⟩ := hQ93
    have N93 : Fr n0 L93 := by rw [l93]; exact Fr.app N88 N93q
    replace R93 : Rep Z n0 T93.heap ((b33, Obj "com/example/witgen/witgen/regex/Partition" [("elements", "[I", (.ref b136)), ("location", "[I", (.ref b236)), ("blockOf", "[I", (.ref b336)), ("start", "[I", (.ref b436)), ("end", "[I", (.ref b536)), ("marked", "[I", (.ref b636)), ("touched", "[I", (.ref b736)), ("blocks", "I", (.int (Int32.ofNat cn))), ("touchedCount", "I", (.int (Int32.ofNat (mTc [y0, y1, y2, y3] (List.replicate (max [y0, y1, y2, y3].length cn) 0) 0 mn))))]) :: (b236, Ar .int (nl (mLo [y0, y1, y2, y3] (pSt [y0, y1, y2, y3] cn) (pS4 [y0, y1, y2, y3] cn).1 (pS4 [y0, y1, y2, y3] cn).2.1 (List.replicate (max [y0, y1, y2, y3].length cn) 0) mn))) :: (b336, Ar .int (nl [y0, y1, y2, y3])) :: (b436, Ar .int (nl (pSt [y0, y1, y2, y3] cn))) :: (b4, Ar .int (nl [y0, y1, y2, y3])) :: (b136, Ar .int (nl (mEl [y0, y1, y2, y3] (pSt [y0, y1, y2, y3] cn) (pS4 [y0, y1, y2, y3] cn).1 (pS4 [y0, y1, y2, y3] cn).2.1 (List.replicate (max [y0, y1, y2, y3].length cn) 0) mn))) :: (b636, Ar .int (nl (mMk [y0, y1, y2, y3] (List.replicate (max [y0, y1, y2, y3].length cn) 0) mn))) :: (b736, Ar .int (nl (mTo [y0, y1, y2, y3] (List.replicate (max [y0, y1, y2, y3].length cn) 0) (List.replicate (max [y0, y1, y2, y3].length cn) 0) 0 mn))) :: (b536, Ar .int (nl (pEn [y0, y1, y2, y3] cn))) :: (b19, Ar .int (nl [y0, y1, y2, y3])) :: []) := R93
    have pre98 : ∀ t, Steps p.tables e below (T93.setTop (mkF m 226 #[.val (.int xa), .val (.int xb), .val (.int xc), .val (.int xd), .val (.int xn), .val (.int xs), .val (.int (Int32.ofNat cn)), .val (.ref b4), .val (.ref b19), .val (.ref b33), .val (.int (1 : Int32)), .val (.int (Int32.ofNat mn)), .val (.int (1 : Int32)), .val (.int (1 : Int32)), .val (.int (1 : Int32)), .unset] [(.int (F7 3 (mLo [y0, y1, y2, y3] (pSt [y0, y1, y2, y3] cn) (pS4 [y0, y1, y2, y3] cn).1 (pS4 [y0, y1, y2, y3] cn).2.1 (List.replicate (max [y0, y1, y2, y3].length cn) 0) mn) [y0, y1, y2, y3] (pSt [y0, y1, y2, y3] cn)))])) t → Steps p.tables e below (s₁.setTop (entryFrame m #[(.int xa), (.int xb), (.int xc), (.int xd), (.int xn), (.int xs)] maxLocals)) t := fun t k => pre92 t (st93.trans k)
    have pre99 : ∀ t, Steps p.tables e below (T93.setTop (mkF m 233 #[.val (.int xa), .val (.int xb), .val (.int xc), .val (.int xd), .val (.int xn), .val (.int xs), .val (.int (Int32.ofNat cn)), .val (.ref b4), .val (.ref b19), .val (.ref b33), .val (.int (1 : Int32)), .val (.int (Int32.ofNat mn)), .val (.int (1 : Int32)), .val (.int (1 : Int32)), .val (.int (1 : Int32)), .unset] [(.int (1 : Int32)), (.int (Int32.ofNat mn)), (.int (3 : Int32)), (.ref b4), (.int (F7 3 (mLo [y0, y1, y2, y3] (pSt [y0, y1, y2, y3] cn) (pS4 [y0, y1, y2, y3] cn).1 (pS4 [y0, y1, y2, y3] cn).2.1 (List.replicate (max [y0, y1, y2, y3].length cn) 0) mn) [y0, y1, y2, y3] (pSt [y0, y1, y2, y3] cn)))])) t → Steps p.tables e below (s₁.setTop (entryFrame m #[(.int xa), (.int xb), (.int xc), (.int xd), (.int xn), (.int xs)] maxLocals)) t := fun t k => pre98 t (by
      show Steps p.tables e below (T93.setTop (mkF m 226 #[.val (.int xa), .val (.int xb), .val (.int xc), .val (.int xd), .val (.int xn), .val (.int xs), .val (.int (Int32.ofNat cn)), .val (.ref b4), .val (.ref b19), .val (.ref b33), .val (.int (1 : Int32)), .val (.int (Int32.ofNat mn)), .val (.int (1 : Int32)), .val (.int (1 : Int32)), .val (.int (1 : Int32)), .unset] [(.int (F7 3 (mLo [y0, y1, y2, y3] (pSt [y0, y1, y2, y3] cn) (pS4 [y0, y1, y2, y3] cn).1 (pS4 [y0, y1, y2, y3] cn).2.1 (List.replicate (max [y0, y1, y2, y3].length cn) 0) mn) [y0, y1, y2, y3] (pSt [y0, y1, y2, y3] cn)))])) _
      refine XS.aload X93.here hx rfl (hb hby at_226) rfl rfl ?_
      refine XS.iconst X93.here hx rfl (hb hby at_228) ?_
      refine XS.iload X93.here hx rfl (hb hby at_229) rfl ?_
      refine XS.iload X93.here hx rfl (hb hby at_231) rfl ?_
      exact k)
    have R101 : Rep Z n0 T93.heap ((b4, Ar .int (nl [y0, y1, y2, y3])) :: (b33, Obj "com/example/witgen/witgen/regex/Partition" [("elements", "[I", (.ref b136)), ("location", "[I", (.ref b236)), ("blockOf", "[I", (.ref b336)), ("start", "[I", (.ref b436)), ("end", "[I", (.ref b536)), ("marked", "[I", (.ref b636)), ("touched", "[I", (.ref b736)), ("blocks", "I", (.int (Int32.ofNat cn))), ("touchedCount", "I", (.int (Int32.ofNat (mTc [y0, y1, y2, y3] (List.replicate (max [y0, y1, y2, y3].length cn) 0) 0 mn))))]) :: (b236, Ar .int (nl (mLo [y0, y1, y2, y3] (pSt [y0, y1, y2, y3] cn) (pS4 [y0, y1, y2, y3] cn).1 (pS4 [y0, y1, y2, y3] cn).2.1 (List.replicate (max [y0, y1, y2, y3].length cn) 0) mn))) :: (b336, Ar .int (nl [y0, y1, y2, y3])) :: (b436, Ar .int (nl (pSt [y0, y1, y2, y3] cn))) :: (b136, Ar .int (nl (mEl [y0, y1, y2, y3] (pSt [y0, y1, y2, y3] cn) (pS4 [y0, y1, y2, y3] cn).1 (pS4 [y0, y1, y2, y3] cn).2.1 (List.replicate (max [y0, y1, y2, y3].length cn) 0) mn))) :: (b636, Ar .int (nl (mMk [y0, y1, y2, y3] (List.replicate (max [y0, y1, y2, y3].length cn) 0) mn))) :: (b736, Ar .int (nl (mTo [y0, y1, y2, y3] (List.replicate (max [y0, y1, y2, y3].length cn) 0) (List.replicate (max [y0, y1, y2, y3].length cn) 0) 0 mn))) :: (b536, Ar .int (nl (pEn [y0, y1, y2, y3] cn))) :: (b19, Ar .int (nl [y0, y1, y2, y3])) :: []) := R93.front 4 rfl rfl
    obtain ⟨_, _, ⟨T100, L100, k100, n100⟩, -, X100, ⟨Lc100, hQ100, l100, y100, z100⟩, st100⟩ := Jvm.LawKit.callS X93 hx (y := (⟨"com/example/witgen/witgen/regex/PartitionIsFirstOfBlockPinLaw", "firstRef", "([IIIZ)Z"⟩ : MethodName)) hown (mvT hZ (hw _ (List.mem_of_getElem? (i := 63) rfl))) (mvT hZ (hw _ (List.mem_of_getElem? (i := 64) rfl))) (mvT hZ (hw _ (List.mem_of_getElem? (i := 65) rfl))) (mvT hZ (hw _ (List.mem_of_getElem? (i := 66) rfl))) (by decide) (backOf (W := 1) (rm8 l Z a0 hw [] b4 3 mn (1 : Int32) _ T93.heap n0 _ R101 (show (3 : Nat) < 4 by decide) (by decide) (show (0 : Nat) < 4 by decide) (by decide) (show (1 : Nat) < 4 by decide) (by decide) (show (2 : Nat) < 4 by decide) (by decide) (by simpa using hm4) (by omega)) hZ (hw _ (List.mem_of_getElem? (i := 66) rfl)) (hw _ (List.mem_of_getElem? (i := 65) rfl)) (by decide) (by decide)) (g := (mkF m 233 #[.val (.int xa), .val (.int xb), .val (.int xc), .val (.int xd), .val (.int xn), .val (.int xs), .val (.int (Int32.ofNat cn)), .val (.ref b4), .val (.ref b19), .val (.ref b33), .val (.int (1 : Int32)), .val (.int (Int32.ofNat mn)), .val (.int (1 : Int32)), .val (.int (1 : Int32)), .val (.int (1 : Int32)), .unset] [(.int (1 : Int32)), (.int (Int32.ofNat mn)), (.int (3 : Int32)), (.ref b4), (.int (F7 3 (mLo [y0, y1, y2, y3] (pSt [y0, y1, y2, y3] cn) (pS4 [y0, y1, y2, y3] cn).1 (pS4 [y0, y1, y2, y3] cn).2.1 (List.replicate (max [y0, y1, y2, y3].length cn) 0) mn) [y0, y1, y2, y3] (pSt [y0, y1, y2, y3] cn)))])) rfl (by rw [hml]; rfl) (argsL := [(.ref b4), (.int (3 : Int32)), (.int (Int32.ofNat mn)), (.int (1 : Int32))]) (rest := [(.int (F7 3 (mLo [y0, y1, y2, y3] (pSt [y0, y1, y2, y3] cn) (pS4 [y0, y1, y2, y3] cn).1 (pS4 [y0, y1, y2, y3] cn).2.1 (List.replicate (max [y0, y1, y2, y3].length cn) 0) mn) [y0, y1, y2, y3] (pSt [y0, y1, y2, y3] cn)))]) (lenOf pd__28_5bIIIZ_29Z rfl) rfl (by show 2 * 0 + _ ≤ _; exact Nat.le_of_eq rfl) (hb hby at_233) (fun _ _ => ⟨rfl, rfl, (by decide : 11 + 0 ≤ _), (by decide : 69 + 0 ≤ _)⟩)
    dsimp only [Pt.U, Pt.locs, Pt.cells, Pt.slots] at X100 l100 y100 z100 st100 hQ100
    subst y100 z100
    obtain ⟨rfl, N100q, R100⟩ := hQ100
    have N100 : Fr n0 L100 := by rw [l100]; exact Fr.app N93 N100q
    replace R100 : Rep Z n0 T100.heap ((b4, Ar .int (nl [y0, y1, y2, y3])) :: (b33, Obj "com/example/witgen/witgen/regex/Partition" [("elements", "[I", (.ref b136)), ("location", "[I", (.ref b236)), ("blockOf", "[I", (.ref b336)), ("start", "[I", (.ref b436)), ("end", "[I", (.ref b536)), ("marked", "[I", (.ref b636)), ("touched", "[I", (.ref b736)), ("blocks", "I", (.int (Int32.ofNat cn))), ("touchedCount", "I", (.int (Int32.ofNat (mTc [y0, y1, y2, y3] (List.replicate (max [y0, y1, y2, y3].length cn) 0) 0 mn))))]) :: (b236, Ar .int (nl (mLo [y0, y1, y2, y3] (pSt [y0, y1, y2, y3] cn) (pS4 [y0, y1, y2, y3] cn).1 (pS4 [y0, y1, y2, y3] cn).2.1 (List.replicate (max [y0, y1, y2, y3].length cn) 0) mn))) :: (b336, Ar .int (nl [y0, y1, y2, y3])) :: (b436, Ar .int (nl (pSt [y0, y1, y2, y3] cn))) :: (b136, Ar .int (nl (mEl [y0, y1, y2, y3] (pSt [y0, y1, y2, y3] cn) (pS4 [y0, y1, y2, y3] cn).1 (pS4 [y0, y1, y2, y3] cn).2.1 (List.replicate (max [y0, y1, y2, y3].length cn) 0) mn))) :: (b636, Ar .int (nl (mMk [y0, y1, y2, y3] (List.replicate (max [y0, y1, y2, y3].length cn) 0) mn))) :: (b736, Ar .int (nl (mTo [y0, y1, y2, y3] (List.replicate (max [y0, y1, y2, y3].length cn) 0) (List.replicate (max [y0, y1, y2, y3].length cn) 0) 0 mn))) :: (b536, Ar .int (nl (pEn [y0, y1, y2, y3] cn))) :: (b19, Ar .int (nl [y0, y1, y2, y3])) :: []) := R100
    have pre102 : ∀ t, Steps p.tables e below (T100.setTop (mkF m 236 #[.val (.int xa), .val (.int xb), .val (.int xc), .val (.int xd), .val (.int xn), .val (.int xs), .val (.int (Int32.ofNat cn)), .val (.ref b4), .val (.ref b19), .val (.ref b33), .val (.int (1 : Int32)), .val (.int (Int32.ofNat mn)), .val (.int (1 : Int32)), .val (.int (1 : Int32)), .val (.int (1 : Int32)), .unset] [(.int (F8 3 mn (1 : Int32) [y0, y1, y2, y3])), (.int (F7 3 (mLo [y0, y1, y2, y3] (pSt [y0, y1, y2, y3] cn) (pS4 [y0, y1, y2, y3] cn).1 (pS4 [y0, y1, y2, y3] cn).2.1 (List.replicate (max [y0, y1, y2, y3].length cn) 0) mn) [y0, y1, y2, y3] (pSt [y0, y1, y2, y3] cn)))])) t → Steps p.tables e below (s₁.setTop (entryFrame m #[(.int xa), (.int xb), (.int xc), (.int xd), (.int xn), (.int xs)] maxLocals)) t := fun t k => pre99 t (st100 t k)
    have hb103 : (F7 3 (mLo [y0, y1, y2, y3] (pSt [y0, y1, y2, y3] cn) (pS4 [y0, y1, y2, y3] cn).1 (pS4 [y0, y1, y2, y3] cn).2.1 (List.replicate (max [y0, y1, y2, y3].length cn) 0) mn) [y0, y1, y2, y3] (pSt [y0, y1, y2, y3] cn)) = (F8 3 mn (1 : Int32) [y0, y1, y2, y3]) := (okB.parts (hB mn hm4)).2.2 3 (by decide)
    have pre105 : ∀ t, Steps p.tables e below (T100.setTop (mkF m 248 #[.val (.int xa), .val (.int xb), .val (.int xc), .val (.int xd), .val (.int xn), .val (.int xs), .val (.int (Int32.ofNat cn)), .val (.ref b4), .val (.ref b19), .val (.ref b33), .val (.int (1 : Int32)), .val (.int (Int32.ofNat mn)), .val (.int (1 : Int32)), .val (.int (1 : Int32)), .val (.int (1 : Int32)), .val (.int (1 : Int32))] [(.int (1 : Int32))])) t → Steps p.tables e below (s₁.setTop (entryFrame m #[(.int xa), (.int xb), (.int xc), (.int xd), (.int xn), (.int xs)] maxLocals)) t := fun t k => pre102 t (by
      show Steps p.tables e below (T100.setTop (mkF m 236 #[.val (.int xa), .val (.int xb), .val (.int xc), .val (.int xd), .val (.int xn), .val (.int xs), .val (.int (Int32.ofNat cn)), .val (.ref b4), .val (.ref b19), .val (.ref b33), .val (.int (1 : Int32)), .val (.int (Int32.ofNat mn)), .val (.int (1 : Int32)), .val (.int (1 : Int32)), .val (.int (1 : Int32)), .unset] [(.int (F8 3 mn (1 : Int32) [y0, y1, y2, y3])), (.int (F7 3 (mLo [y0, y1, y2, y3] (pSt [y0, y1, y2, y3] cn) (pS4 [y0, y1, y2, y3] cn).1 (pS4 [y0, y1, y2, y3] cn).2.1 (List.replicate (max [y0, y1, y2, y3].length cn) 0) mn) [y0, y1, y2, y3] (pSt [y0, y1, y2, y3] cn)))])) _
      refine XS.icmpNo X100.here hx rfl (hb hby at_236) rfl (teq hb103).2 ?_
      refine XS.iconst X100.here hx rfl (hb hby at_239) ?_
      refine XS.goto X100.here hx rfl (pc0 := 240) (pc' := 244) rfl (hb hby at_240) (by decide) (by decide) ?_
      refine XS.istore X100.here hx rfl (hb hby at_244) rfl (l' := #[.val (.int xa), .val (.int xb), .val (.int xc), .val (.int xd), .val (.int xn), .val (.int xs), .val (.int (Int32.ofNat cn)), .val (.ref b4), .val (.ref b19), .val (.ref b33), .val (.int (1 : Int32)), .val (.int (Int32.ofNat mn)), .val (.int (1 : Int32)), .val (.int (1 : Int32)), .val (.int (1 : Int32)), .val (.int (1 : Int32))]) rfl ?_
      refine XS.iload X100.here hx rfl (hb hby at_246) rfl ?_
      exact k)
    have hb104 : ¬ ((1 : Int32) = (0 : Int32)) := (by decide)
    have pre107 : ∀ t, Steps p.tables e below (T100.setTop (mkF m 253 #[.val (.int xa), .val (.int xb), .val (.int xc), .val (.int xd), .val (.int xn), .val (.int xs), .val (.int (Int32.ofNat cn)), .val (.ref b4), .val (.ref b19), .val (.ref b33), .val (.int (1 : Int32)), .val (.int (Int32.ofNat mn)), .val (.int (1 : Int32)), .val (.int (1 : Int32)), .val (.int (1 : Int32)), .val (.int (1 : Int32))] [(.int (1 : Int32))])) t → Steps p.tables e below (s₁.setTop (entryFrame m #[(.int xa), (.int xb), (.int xc), (.int xd), (.int xn), (.int xs)] maxLocals)) t := fun t k => pre105 t (by
      show Steps p.tables e below (T100.setTop (mkF m 248 #[.val (.int xa), .val (.int xb), .val (.int xc), .val (.int xd), .val (.int xn), .val (.int xs), .val (.int (Int32.ofNat cn)), .val (.ref b4), .val (.ref b19), .val (.ref b33), .val (.int (1 : Int32)), .val (.int (Int32.ofNat mn)), .val (.int (1 : Int32)), .val (.int (1 : Int32)), .val (.int (1 : Int32)), .val (.int (1 : Int32))] [(.int (1 : Int32))])) _
      refine XS.ifNo X100.here hx rfl (hb hby at_248) rfl ((if0 _ _).trans (feq hb104).1) ?_
      refine XS.iload X100.here hx rfl (hb hby at_251) rfl ?_
      exact k)
    have hb106 : ¬ ((1 : Int32) = (0 : Int32)) := (by decide)
    have pre109 : ∀ t, Steps p.tables e below (T100.setTop (mkF m 258 #[.val (.int xa), .val (.int xb), .val (.int xc), .val (.int xd), .val (.int xn), .val (.int xs), .val (.int (Int32.ofNat cn)), .val (.ref b4), .val (.ref b19), .val (.ref b33), .val (.int (1 : Int32)), .val (.int (Int32.ofNat mn)), .val (.int (1 : Int32)), .val (.int (1 : Int32)), .val (.int (1 : Int32)), .val (.int (1 : Int32))] [(.int (1 : Int32))])) t → Steps p.tables e below (s₁.setTop (entryFrame m #[(.int xa), (.int xb), (.int xc), (.int xd), (.int xn), (.int xs)] maxLocals)) t := fun t k => pre107 t (by
      show Steps p.tables e below (T100.setTop (mkF m 253 #[.val (.int xa), .val (.int xb), .val (.int xc), .val (.int xd), .val (.int xn), .val (.int xs), .val (.int (Int32.ofNat cn)), .val (.ref b4), .val (.ref b19), .val (.ref b33), .val (.int (1 : Int32)), .val (.int (Int32.ofNat mn)), .val (.int (1 : Int32)), .val (.int (1 : Int32)), .val (.int (1 : Int32)), .val (.int (1 : Int32))] [(.int (1 : Int32))])) _
      refine XS.ifNo X100.here hx rfl (hb hby at_253) rfl ((if0 _ _).trans (feq hb106).1) ?_
      refine XS.iload X100.here hx rfl (hb hby at_256) rfl ?_
      exact k)
    have hb108 : ¬ ((1 : Int32) = (0 : Int32)) := (by decide)
    have pre111 : ∀ t, Steps p.tables e below (T100.setTop (mkF m 263 #[.val (.int xa), .val (.int xb), .val (.int xc), .val (.int xd), .val (.int xn), .val (.int xs), .val (.int (Int32.ofNat cn)), .val (.ref b4), .val (.ref b19), .val (.ref b33), .val (.int (1 : Int32)), .val (.int (Int32.ofNat mn)), .val (.int (1 : Int32)), .val (.int (1 : Int32)), .val (.int (1 : Int32)), .val (.int (1 : Int32))] [(.int (1 : Int32))])) t → Steps p.tables e below (s₁.setTop (entryFrame m #[(.int xa), (.int xb), (.int xc), (.int xd), (.int xn), (.int xs)] maxLocals)) t := fun t k => pre109 t (by
      show Steps p.tables e below (T100.setTop (mkF m 258 #[.val (.int xa), .val (.int xb), .val (.int xc), .val (.int xd), .val (.int xn), .val (.int xs), .val (.int (Int32.ofNat cn)), .val (.ref b4), .val (.ref b19), .val (.ref b33), .val (.int (1 : Int32)), .val (.int (Int32.ofNat mn)), .val (.int (1 : Int32)), .val (.int (1 : Int32)), .val (.int (1 : Int32)), .val (.int (1 : Int32))] [(.int (1 : Int32))])) _
      refine XS.ifNo X100.here hx rfl (hb hby at_258) rfl ((if0 _ _).trans (feq hb108).1) ?_
      refine XS.iload X100.here hx rfl (hb hby at_261) rfl ?_
      exact k)
    have hb110 : ¬ ((1 : Int32) = (0 : Int32)) := (by decide)
    have pre112 : ∀ t, Steps p.tables e below (T100.setTop (mkF m 271 #[.val (.int xa), .val (.int xb), .val (.int xc), .val (.int xd), .val (.int xn), .val (.int xs), .val (.int (Int32.ofNat cn)), .val (.ref b4), .val (.ref b19), .val (.ref b33), .val (.int (1 : Int32)), .val (.int (Int32.ofNat mn)), .val (.int (1 : Int32)), .val (.int (1 : Int32)), .val (.int (1 : Int32)), .val (.int (1 : Int32))] [(.int (1 : Int32))])) t → Steps p.tables e below (s₁.setTop (entryFrame m #[(.int xa), (.int xb), (.int xc), (.int xd), (.int xn), (.int xs)] maxLocals)) t := fun t k => pre111 t (by
      show Steps p.tables e below (T100.setTop (mkF m 263 #[.val (.int xa), .val (.int xb), .val (.int xc), .val (.int xd), .val (.int xn), .val (.int xs), .val (.int (Int32.ofNat cn)), .val (.ref b4), .val (.ref b19), .val (.ref b33), .val (.int (1 : Int32)), .val (.int (Int32.ofNat mn)), .val (.int (1 : Int32)), .val (.int (1 : Int32)), .val (.int (1 : Int32)), .val (.int (1 : Int32))] [(.int (1 : Int32))])) _
      refine XS.ifNo X100.here hx rfl (hb hby at_263) rfl ((if0 _ _).trans (feq hb110).1) ?_
      refine XS.iconst X100.here hx rfl (hb hby at_266) ?_
      refine XS.goto X100.here hx rfl (pc0 := 267) (pc' := 271) rfl (hb hby at_267) (by decide) (by decide) ?_
      exact k)
    obtain ⟨fs, hr, hrun, hended, hW, hsame⟩ := X100.leave (v := some (.int (nar .boolean (1 : Int32)))) (fun h => by rw [Bd.returns] at h; cases h)
    refine ⟨_, _, pre112 _ ?_, hrun, hended, _, _, rfl, ?_, ⟨_, rfl⟩, hW, hsame.mono (by decide) (by decide)⟩
    · show Steps p.tables e below (T100.setTop (mkF m 271 #[.val (.int xa), .val (.int xb), .val (.int xc), .val (.int xd), .val (.int xn), .val (.int xs), .val (.int (Int32.ofNat cn)), .val (.ref b4), .val (.ref b19), .val (.ref b33), .val (.int (1 : Int32)), .val (.int (Int32.ofNat mn)), .val (.int (1 : Int32)), .val (.int (1 : Int32)), .val (.int (1 : Int32)), .val (.int (1 : Int32))] [(.int (1 : Int32))])) _
      exact retN X100 hx (t := .boolean) Bd.returns (by simp) (hb hby at_271) hr
    · show Q0 Z xa xb xc xd xn xs n0 [] _ T100.heap _
      have R113 : Rep Z n0 T100.heap ((b33, Obj "com/example/witgen/witgen/regex/Partition" [("elements", "[I", (.ref b136)), ("location", "[I", (.ref b236)), ("blockOf", "[I", (.ref b336)), ("start", "[I", (.ref b436)), ("end", "[I", (.ref b536)), ("marked", "[I", (.ref b636)), ("touched", "[I", (.ref b736)), ("blocks", "I", (.int (Int32.ofNat cn))), ("touchedCount", "I", (.int (Int32.ofNat (mTc [y0, y1, y2, y3] (List.replicate (max [y0, y1, y2, y3].length cn) 0) 0 mn))))]) :: (b236, Ar .int (nl (mLo [y0, y1, y2, y3] (pSt [y0, y1, y2, y3] cn) (pS4 [y0, y1, y2, y3] cn).1 (pS4 [y0, y1, y2, y3] cn).2.1 (List.replicate (max [y0, y1, y2, y3].length cn) 0) mn))) :: (b336, Ar .int (nl [y0, y1, y2, y3])) :: (b436, Ar .int (nl (pSt [y0, y1, y2, y3] cn))) :: (b136, Ar .int (nl (mEl [y0, y1, y2, y3] (pSt [y0, y1, y2, y3] cn) (pS4 [y0, y1, y2, y3] cn).1 (pS4 [y0, y1, y2, y3] cn).2.1 (List.replicate (max [y0, y1, y2, y3].length cn) 0) mn))) :: (b636, Ar .int (nl (mMk [y0, y1, y2, y3] (List.replicate (max [y0, y1, y2, y3].length cn) 0) mn))) :: (b736, Ar .int (nl (mTo [y0, y1, y2, y3] (List.replicate (max [y0, y1, y2, y3].length cn) 0) (List.replicate (max [y0, y1, y2, y3].length cn) 0) 0 mn))) :: (b536, Ar .int (nl (pEn [y0, y1, y2, y3] cn))) :: (b19, Ar .int (nl [y0, y1, y2, y3])) :: []) := (R100.front 0 rfl rfl : Rep Z n0 T100.heap ((b4, Ar .int (nl [y0, y1, y2, y3])) :: (b33, Obj "com/example/witgen/witgen/regex/Partition" [("elements", "[I", (.ref b136)), ("location", "[I", (.ref b236)), ("blockOf", "[I", (.ref b336)), ("start", "[I", (.ref b436)), ("end", "[I", (.ref b536)), ("marked", "[I", (.ref b636)), ("touched", "[I", (.ref b736)), ("blocks", "I", (.int (Int32.ofNat cn))), ("touchedCount", "I", (.int (Int32.ofNat (mTc [y0, y1, y2, y3] (List.replicate (max [y0, y1, y2, y3].length cn) 0) 0 mn))))]) :: (b236, Ar .int (nl (mLo [y0, y1, y2, y3] (pSt [y0, y1, y2, y3] cn) (pS4 [y0, y1, y2, y3] cn).1 (pS4 [y0, y1, y2, y3] cn).2.1 (List.replicate (max [y0, y1, y2, y3].length cn) 0) mn))) :: (b336, Ar .int (nl [y0, y1, y2, y3])) :: (b436, Ar .int (nl (pSt [y0, y1, y2, y3] cn))) :: (b136, Ar .int (nl (mEl [y0, y1, y2, y3] (pSt [y0, y1, y2, y3] cn) (pS4 [y0, y1, y2, y3] cn).1 (pS4 [y0, y1, y2, y3] cn).2.1 (List.replicate (max [y0, y1, y2, y3].length cn) 0) mn))) :: (b636, Ar .int (nl (mMk [y0, y1, y2, y3] (List.replicate (max [y0, y1, y2, y3].length cn) 0) mn))) :: (b736, Ar .int (nl (mTo [y0, y1, y2, y3] (List.replicate (max [y0, y1, y2, y3].length cn) 0) (List.replicate (max [y0, y1, y2, y3].length cn) 0) 0 mn))) :: (b536, Ar .int (nl (pEn [y0, y1, y2, y3] cn))) :: (b19, Ar .int (nl [y0, y1, y2, y3])) :: [])).tail
      have R114 : Rep Z n0 T100.heap ((b236, Ar .int (nl (mLo [y0, y1, y2, y3] (pSt [y0, y1, y2, y3] cn) (pS4 [y0, y1, y2, y3] cn).1 (pS4 [y0, y1, y2, y3] cn).2.1 (List.replicate (max [y0, y1, y2, y3].length cn) 0) mn))) :: (b336, Ar .int (nl [y0, y1, y2, y3])) :: (b436, Ar .int (nl (pSt [y0, y1, y2, y3] cn))) :: (b136, Ar .int (nl (mEl [y0, y1, y2, y3] (pSt [y0, y1, y2, y3] cn) (pS4 [y0, y1, y2, y3] cn).1 (pS4 [y0, y1, y2, y3] cn).2.1 (List.replicate (max [y0, y1, y2, y3].length cn) 0) mn))) :: (b636, Ar .int (nl (mMk [y0, y1, y2, y3] (List.replicate (max [y0, y1, y2, y3].length cn) 0) mn))) :: (b736, Ar .int (nl (mTo [y0, y1, y2, y3] (List.replicate (max [y0, y1, y2, y3].length cn) 0) (List.replicate (max [y0, y1, y2, y3].length cn) 0) 0 mn))) :: (b536, Ar .int (nl (pEn [y0, y1, y2, y3] cn))) :: (b19, Ar .int (nl [y0, y1, y2, y3])) :: []) := (R113.front 0 rfl rfl : Rep Z n0 T100.heap ((b33, Obj "com/example/witgen/witgen/regex/Partition" [("elements", "[I", (.ref b136)), ("location", "[I", (.ref b236)), ("blockOf", "[I", (.ref b336)), ("start", "[I", (.ref b436)), ("end", "[I", (.ref b536)), ("marked", "[I", (.ref b636)), ("touched", "[I", (.ref b736)), ("blocks", "I", (.int (Int32.ofNat cn))), ("touchedCount", "I", (.int (Int32.ofNat (mTc [y0, y1, y2, y3] (List.replicate (max [y0, y1, y2, y3].length cn) 0) 0 mn))))]) :: (b236, Ar .int (nl (mLo [y0, y1, y2, y3] (pSt [y0, y1, y2, y3] cn) (pS4 [y0, y1, y2, y3] cn).1 (pS4 [y0, y1, y2, y3] cn).2.1 (List.replicate (max [y0, y1, y2, y3].length cn) 0) mn))) :: (b336, Ar .int (nl [y0, y1, y2, y3])) :: (b436, Ar .int (nl (pSt [y0, y1, y2, y3] cn))) :: (b136, Ar .int (nl (mEl [y0, y1, y2, y3] (pSt [y0, y1, y2, y3] cn) (pS4 [y0, y1, y2, y3] cn).1 (pS4 [y0, y1, y2, y3] cn).2.1 (List.replicate (max [y0, y1, y2, y3].length cn) 0) mn))) :: (b636, Ar .int (nl (mMk [y0, y1, y2, y3] (List.replicate (max [y0, y1, y2, y3].length cn) 0) mn))) :: (b736, Ar .int (nl (mTo [y0, y1, y2, y3] (List.replicate (max [y0, y1, y2, y3].length cn) 0) (List.replicate (max [y0, y1, y2, y3].length cn) 0) 0 mn))) :: (b536, Ar .int (nl (pEn [y0, y1, y2, y3] cn))) :: (b19, Ar .int (nl [y0, y1, y2, y3])) :: [])).tail
      have R115 : Rep Z n0 T100.heap ((b336, Ar .int (nl [y0, y1, y2, y3])) :: (b436, Ar .int (nl (pSt [y0, y1, y2, y3] cn))) :: (b136, Ar .int (nl (mEl [y0, y1, y2, y3] (pSt [y0, y1, y2, y3] cn) (pS4 [y0, y1, y2, y3] cn).1 (pS4 [y0, y1, y2, y3] cn).2.1 (List.replicate (max [y0, y1, y2, y3].length cn) 0) mn))) :: (b636, Ar .int (nl (mMk [y0, y1, y2, y3] (List.replicate (max [y0, y1, y2, y3].length cn) 0) mn))) :: (b736, Ar .int (nl (mTo [y0, y1, y2, y3] (List.replicate (max [y0, y1, y2, y3].length cn) 0) (List.replicate (max [y0, y1, y2, y3].length cn) 0) 0 mn))) :: (b536, Ar .int (nl (pEn [y0, y1, y2, y3] cn))) :: (b19, Ar .int (nl [y0, y1, y2, y3])) :: []) := (R114.front 0 rfl rfl : Rep Z n0 T100.heap ((b236, Ar .int (nl (mLo [y0, y1, y2, y3] (pSt [y0, y1, y2, y3] cn) (pS4 [y0, y1, y2, y3] cn).1 (pS4 [y0, y1, y2, y3] cn).2.1 (List.replicate (max [y0, y1, y2, y3].length cn) 0) mn))) :: (b336, Ar .int (nl [y0, y1, y2, y3])) :: (b436, Ar .int (nl (pSt [y0, y1, y2, y3] cn))) :: (b136, Ar .int (nl (mEl [y0, y1, y2, y3] (pSt [y0, y1, y2, y3] cn) (pS4 [y0, y1, y2, y3] cn).1 (pS4 [y0, y1, y2, y3] cn).2.1 (List.replicate (max [y0, y1, y2, y3].length cn) 0) mn))) :: (b636, Ar .int (nl (mMk [y0, y1, y2, y3] (List.replicate (max [y0, y1, y2, y3].length cn) 0) mn))) :: (b736, Ar .int (nl (mTo [y0, y1, y2, y3] (List.replicate (max [y0, y1, y2, y3].length cn) 0) (List.replicate (max [y0, y1, y2, y3].length cn) 0) 0 mn))) :: (b536, Ar .int (nl (pEn [y0, y1, y2, y3] cn))) :: (b19, Ar .int (nl [y0, y1, y2, y3])) :: [])).tail
      have R116 : Rep Z n0 T100.heap ((b436, Ar .int (nl (pSt [y0, y1, y2, y3] cn))) :: (b136, Ar .int (nl (mEl [y0, y1, y2, y3] (pSt [y0, y1, y2, y3] cn) (pS4 [y0, y1, y2, y3] cn).1 (pS4 [y0, y1, y2, y3] cn).2.1 (List.replicate (max [y0, y1, y2, y3].length cn) 0) mn))) :: (b636, Ar .int (nl (mMk [y0, y1, y2, y3] (List.replicate (max [y0, y1, y2, y3].length cn) 0) mn))) :: (b736, Ar .int (nl (mTo [y0, y1, y2, y3] (List.replicate (max [y0, y1, y2, y3].length cn) 0) (List.replicate (max [y0, y1, y2, y3].length cn) 0) 0 mn))) :: (b536, Ar .int (nl (pEn [y0, y1, y2, y3] cn))) :: (b19, Ar .int (nl [y0, y1, y2, y3])) :: []) := (R115.front 0 rfl rfl : Rep Z n0 T100.heap ((b336, Ar .int (nl [y0, y1, y2, y3])) :: (b436, Ar .int (nl (pSt [y0, y1, y2, y3] cn))) :: (b136, Ar .int (nl (mEl [y0, y1, y2, y3] (pSt [y0, y1, y2, y3] cn) (pS4 [y0, y1, y2, y3] cn).1 (pS4 [y0, y1, y2, y3] cn).2.1 (List.replicate (max [y0, y1, y2, y3].length cn) 0) mn))) :: (b636, Ar .int (nl (mMk [y0, y1, y2, y3] (List.replicate (max [y0, y1, y2, y3].length cn) 0) mn))) :: (b736, Ar .int (nl (mTo [y0, y1, y2, y3] (List.replicate (max [y0, y1, y2, y3].length cn) 0) (List.replicate (max [y0, y1, y2, y3].length cn) 0) 0 mn))) :: (b536, Ar .int (nl (pEn [y0, y1, y2, y3] cn))) :: (b19, Ar .int (nl [y0, y1, y2, y3])) :: [])).tail
      have R117 : Rep Z n0 T100.heap ((b136, Ar .int (nl (mEl [y0, y1, y2, y3] (pSt [y0, y1, y2, y3] cn) (pS4 [y0, y1, y2, y3] cn).1 (pS4 [y0, y1, y2, y3] cn).2.1 (List.replicate (max [y0, y1, y2, y3].length cn) 0) mn))) :: (b636, Ar .int (nl (mMk [y0, y1, y2, y3] (List.replicate (max [y0, y1, y2, y3].length cn) 0) mn))) :: (b736, Ar .int (nl (mTo [y0, y1, y2, y3] (List.replicate (max [y0, y1, y2, y3].length cn) 0) (List.replicate (max [y0, y1, y2, y3].length cn) 0) 0 mn))) :: (b536, Ar .int (nl (pEn [y0, y1, y2, y3] cn))) :: (b19, Ar .int (nl [y0, y1, y2, y3])) :: []) := (R116.front 0 rfl rfl : Rep Z n0 T100.heap ((b436, Ar .int (nl (pSt [y0, y1, y2, y3] cn))) :: (b136, Ar .int (nl (mEl [y0, y1, y2, y3] (pSt [y0, y1, y2, y3] cn) (pS4 [y0, y1, y2, y3] cn).1 (pS4 [y0, y1, y2, y3] cn).2.1 (List.replicate (max [y0, y1, y2, y3].length cn) 0) mn))) :: (b636, Ar .int (nl (mMk [y0, y1, y2, y3] (List.replicate (max [y0, y1, y2, y3].length cn) 0) mn))) :: (b736, Ar .int (nl (mTo [y0, y1, y2, y3] (List.replicate (max [y0, y1, y2, y3].length cn) 0) (List.replicate (max [y0, y1, y2, y3].length cn) 0) 0 mn))) :: (b536, Ar .int (nl (pEn [y0, y1, y2, y3] cn))) :: (b19, Ar .int (nl [y0, y1, y2, y3])) :: [])).tail
      have R118 : Rep Z n0 T100.heap ((b636, Ar .int (nl (mMk [y0, y1, y2, y3] (List.replicate (max [y0, y1, y2, y3].length cn) 0) mn))) :: (b736, Ar .int (nl (mTo [y0, y1, y2, y3] (List.replicate (max [y0, y1, y2, y3].length cn) 0) (List.replicate (max [y0, y1, y2, y3].length cn) 0) 0 mn))) :: (b536, Ar .int (nl (pEn [y0, y1, y2, y3] cn))) :: (b19, Ar .int (nl [y0, y1, y2, y3])) :: []) := (R117.front 0 rfl rfl : Rep Z n0 T100.heap ((b136, Ar .int (nl (mEl [y0, y1, y2, y3] (pSt [y0, y1, y2, y3] cn) (pS4 [y0, y1, y2, y3] cn).1 (pS4 [y0, y1, y2, y3] cn).2.1 (List.replicate (max [y0, y1, y2, y3].length cn) 0) mn))) :: (b636, Ar .int (nl (mMk [y0, y1, y2, y3] (List.replicate (max [y0, y1, y2, y3].length cn) 0) mn))) :: (b736, Ar .int (nl (mTo [y0, y1, y2, y3] (List.replicate (max [y0, y1, y2, y3].length cn) 0) (List.replicate (max [y0, y1, y2, y3].length cn) 0) 0 mn))) :: (b536, Ar .int (nl (pEn [y0, y1, y2, y3] cn))) :: (b19, Ar .int (nl [y0, y1, y2, y3])) :: [])).tail
      have R119 : Rep Z n0 T100.heap ((b736, Ar .int (nl (mTo [y0, y1, y2, y3] (List.replicate (max [y0, y1, y2, y3].length cn) 0) (List.replicate (max [y0, y1, y2, y3].length cn) 0) 0 mn))) :: (b536, Ar .int (nl (pEn [y0, y1, y2, y3] cn))) :: (b19, Ar .int (nl [y0, y1, y2, y3])) :: []) := (R118.front 0 rfl rfl : Rep Z n0 T100.heap ((b636, Ar .int (nl (mMk [y0, y1, y2, y3] (List.replicate (max [y0, y1, y2, y3].length cn) 0) mn))) :: (b736, Ar .int (nl (mTo [y0, y1, y2, y3] (List.replicate (max [y0, y1, y2, y3].length cn) 0) (List.replicate (max [y0, y1, y2, y3].length cn) 0) 0 mn))) :: (b536, Ar .int (nl (pEn [y0, y1, y2, y3] cn))) :: (b19, Ar .int (nl [y0, y1, y2, y3])) :: [])).tail
      have R120 : Rep Z n0 T100.heap ((b536, Ar .int (nl (pEn [y0, y1, y2, y3] cn))) :: (b19, Ar .int (nl [y0, y1, y2, y3])) :: []) := (R119.front 0 rfl rfl : Rep Z n0 T100.heap ((b736, Ar .int (nl (mTo [y0, y1, y2, y3] (List.replicate (max [y0, y1, y2, y3].length cn) 0) (List.replicate (max [y0, y1, y2, y3].length cn) 0) 0 mn))) :: (b536, Ar .int (nl (pEn [y0, y1, y2, y3] cn))) :: (b19, Ar .int (nl [y0, y1, y2, y3])) :: [])).tail
      have R121 : Rep Z n0 T100.heap ((b19, Ar .int (nl [y0, y1, y2, y3])) :: []) := (R120.front 0 rfl rfl : Rep Z n0 T100.heap ((b536, Ar .int (nl (pEn [y0, y1, y2, y3] cn))) :: (b19, Ar .int (nl [y0, y1, y2, y3])) :: [])).tail
      have R122 : Rep Z n0 T100.heap ([]) := (R121.front 0 rfl rfl : Rep Z n0 T100.heap ((b19, Ar .int (nl [y0, y1, y2, y3])) :: [])).tail
      exact ⟨(by rfl), N100, R122⟩
  · have pre123 : ∀ t, Steps p.tables e below (T36.setTop (mkF m 142 #[.val (.int xa), .val (.int xb), .val (.int xc), .val (.int xd), .val (.int xn), .val (.int xs), .val (.int (Int32.ofNat cn)), .val (.ref b4), .val (.ref b19), .val (.ref b33), .val (.int (bz (¬ ((xs &&& (1 : Int32)) = (0 : Int32))))), .val (.int (Int32.ofNat mn)), .unset, .unset, .unset, .unset] [])) t → Steps p.tables e below (s₁.setTop (entryFrame m #[(.int xa), (.int xb), (.int xc), (.int xd), (.int xn), (.int xs)] maxLocals)) t := fun t k => pre44 t (by show Steps p.tables e below (T36.setTop (mkF m 132 #[.val (.int xa), .val (.int xb), .val (.int xc), .val (.int xd), .val (.int xn), .val (.int xs), .val (.int (Int32.ofNat cn)), .val (.ref b4), .val (.ref b19), .val (.ref b33), .val (.int (bz (¬ ((xs &&& (1 : Int32)) = (0 : Int32))))), .val (.int (Int32.ofNat mn)), .unset, .unset, .unset, .unset] [(.int (bz (¬ ((xs &&& (1 : Int32)) = (0 : Int32)))))])) _; refine XS.ifYes X36.here hx rfl (pc0 := 132) (pc' := 142) rfl (hb hby at_132) rfl (ow_beq_t hmk) (by decide) (by decide) ?_; exact k)
    rw [bz_f (P := (¬ ((xs &&& (1 : Int32)) = (0 : Int32)))) hmk] at pre123
    have pre124 : ∀ t, Steps p.tables e below (T36.setTop (mkF m 145 #[.val (.int xa), .val (.int xb), .val (.int xc), .val (.int xd), .val (.int xn), .val (.int xs), .val (.int (Int32.ofNat cn)), .val (.ref b4), .val (.ref b19), .val (.ref b33), .val (.int (0 : Int32)), .val (.int (Int32.ofNat mn)), .unset, .unset, .unset, .unset] [(.int (0 : Int32)), (.ref b33)])) t → Steps p.tables e below (s₁.setTop (entryFrame m #[(.int xa), (.int xb), (.int xc), (.int xd), (.int xn), (.int xs)] maxLocals)) t := fun t k => pre123 t (by
      show Steps p.tables e below (T36.setTop (mkF m 142 #[.val (.int xa), .val (.int xb), .val (.int xc), .val (.int xd), .val (.int xn), .val (.int xs), .val (.int (Int32.ofNat cn)), .val (.ref b4), .val (.ref b19), .val (.ref b33), .val (.int (0 : Int32)), .val (.int (Int32.ofNat mn)), .unset, .unset, .unset, .unset] [])) _
      refine XS.aload X36.here hx rfl (hb hby at_142) rfl rfl ?_
      refine XS.iconst X36.here hx rfl (hb hby at_144) ?_
      exact k)
    have R126 : Rep Z n0 T36.heap ((b436, Ar .int (nl (pSt [y0, y1, y2, y3] cn))) :: (b33, Obj "com/example/witgen/witgen/regex/Partition" [("elements", "[I", (.ref b136)), ("location", "[I", (.ref b236)), ("blockOf", "[I", (.ref b336)), ("start", "[I", (.ref b436)), ("end", "[I", (.ref b536)), ("marked", "[I", (.ref b636)), ("touched", "[I", (.ref b736)), ("blocks", "I", (.int (Int32.ofNat cn))), ("touchedCount", "I", (.int (0 : Int32)))]) :: (b136, Ar .int (nl (pS4 [y0, y1, y2, y3] cn).1)) :: (b236, Ar .int (nl (pS4 [y0, y1, y2, y3] cn).2.1)) :: (b336, Ar .int (nl [y0, y1, y2, y3])) :: (b536, Ar .int (nl (pEn [y0, y1, y2, y3] cn))) :: (b636, Ar .int (nl (List.replicate (max [y0, y1, y2, y3].length cn) 0))) :: (b736, Ar .int (nl (List.replicate (max [y0, y1, y2, y3].length cn) 0))) :: (b19, Ar .int (nl [y0, y1, y2, y3])) :: (b4, Ar .int (nl [y0, y1, y2, y3])) :: []) := R36.front 4 rfl rfl
    have R127 : Rep Z n0 T36.heap ((b336, Ar .int (nl [y0, y1, y2, y3])) :: (b436, Ar .int (nl (pSt [y0, y1, y2, y3] cn))) :: (b33, Obj "com/example/witgen/witgen/regex/Partition" [("elements", "[I", (.ref b136)), ("location", "[I", (.ref b236)), ("blockOf", "[I", (.ref b336)), ("start", "[I", (.ref b436)), ("end", "[I", (.ref b536)), ("marked", "[I", (.ref b636)), ("touched", "[I", (.ref b736)), ("blocks", "I", (.int (Int32.ofNat cn))), ("touchedCount", "I", (.int (0 : Int32)))]) :: (b136, Ar .int (nl (pS4 [y0, y1, y2, y3] cn).1)) :: (b236, Ar .int (nl (pS4 [y0, y1, y2, y3] cn).2.1)) :: (b536, Ar .int (nl (pEn [y0, y1, y2, y3] cn))) :: (b636, Ar .int (nl (List.replicate (max [y0, y1, y2, y3].length cn) 0))) :: (b736, Ar .int (nl (List.replicate (max [y0, y1, y2, y3].length cn) 0))) :: (b19, Ar .int (nl [y0, y1, y2, y3])) :: (b4, Ar .int (nl [y0, y1, y2, y3])) :: []) := R126.front 4 rfl rfl
    have R128 : Rep Z n0 T36.heap ((b236, Ar .int (nl (pS4 [y0, y1, y2, y3] cn).2.1)) :: (b336, Ar .int (nl [y0, y1, y2, y3])) :: (b436, Ar .int (nl (pSt [y0, y1, y2, y3] cn))) :: (b33, Obj "com/example/witgen/witgen/regex/Partition" [("elements", "[I", (.ref b136)), ("location", "[I", (.ref b236)), ("blockOf", "[I", (.ref b336)), ("start", "[I", (.ref b436)), ("end", "[I", (.ref b536)), ("marked", "[I", (.ref b636)), ("touched", "[I", (.ref b736)), ("blocks", "I", (.int (Int32.ofNat cn))), ("touchedCount", "I", (.int (0 : Int32)))]) :: (b136, Ar .int (nl (pS4 [y0, y1, y2, y3] cn).1)) :: (b536, Ar .int (nl (pEn [y0, y1, y2, y3] cn))) :: (b636, Ar .int (nl (List.replicate (max [y0, y1, y2, y3].length cn) 0))) :: (b736, Ar .int (nl (List.replicate (max [y0, y1, y2, y3].length cn) 0))) :: (b19, Ar .int (nl [y0, y1, y2, y3])) :: (b4, Ar .int (nl [y0, y1, y2, y3])) :: []) := R127.front 4 rfl rfl
    have R129 : Rep Z n0 T36.heap ((b33, Obj "com/example/witgen/witgen/regex/Partition" [("elements", "[I", (.ref b136)), ("location", "[I", (.ref b236)), ("blockOf", "[I", (.ref b336)), ("start", "[I", (.ref b436)), ("end", "[I", (.ref b536)), ("marked", "[I", (.ref b636)), ("touched", "[I", (.ref b736)), ("blocks", "I", (.int (Int32.ofNat cn))), ("touchedCount", "I", (.int (0 : Int32)))]) :: (b236, Ar .int (nl (pS4 [y0, y1, y2, y3] cn).2.1)) :: (b336, Ar .int (nl [y0, y1, y2, y3])) :: (b436, Ar .int (nl (pSt [y0, y1, y2, y3] cn))) :: (b136, Ar .int (nl (pS4 [y0, y1, y2, y3] cn).1)) :: (b536, Ar .int (nl (pEn [y0, y1, y2, y3] cn))) :: (b636, Ar .int (nl (List.replicate (max [y0, y1, y2, y3].length cn) 0))) :: (b736, Ar .int (nl (List.replicate (max [y0, y1, y2, y3].length cn) 0))) :: (b19, Ar .int (nl [y0, y1, y2, y3])) :: (b4, Ar .int (nl [y0, y1, y2, y3])) :: []) := R128.front 3 rfl rfl
    obtain ⟨cq125, kq125, q125a, q125b, q125c⟩ := isOf hZ rfl (R129.exa (i := 0) rfl)
    obtain ⟨_, _, ⟨T125, L125, k125, n125⟩, -, X125, ⟨Lc125, hQ125, l125, y125, z125⟩, st125⟩ := X36.virtualBack hx (y := (⟨"com/example/witgen/witgen/regex/Partition", "isFirstOfBlock", "(I)Z"⟩ : MethodName)) (z := (⟨"com/example/witgen/witgen/regex/Partition", "isFirstOfBlock", "(I)Z"⟩ : MethodName)) hown (mvT hZ (hw _ (List.mem_of_getElem? (i := 58) rfl))) (mvT hZ (hw _ (List.mem_of_getElem? (i := 59) rfl))) (notFace_of_selects (args := #[]) (mvT hZ (hw _ (List.mem_of_getElem? (i := 61) rfl)))) (mvT hZ (hw _ (List.mem_of_getElem? (i := 61) rfl))) (mvT hZ (hw _ (List.mem_of_getElem? (i := 60) rfl))) (by decide) (backOf (W := 0) (rm7 l Z a0 hw [] b33 0 _ _ _ _ _ _ _ _ _ _ _ _ T36.heap n0 _ R129 (Nat.lt_of_lt_of_eq (show (0 : Nat) < 4 by decide) (hp.2.1).symm) (by decide) (show (0 : Nat) < 4 by decide) (by decide) (Nat.lt_of_lt_of_le (own_el (i := 0) rfl ha0 ha1 ha2 ha3 (by decide)) hp.2.2.1) (Nat.lt_of_lt_of_le (own_el (i := 0) rfl ha0 ha1 ha2 ha3 (by decide)) (by omega))) hZ (hw _ (List.mem_of_getElem? (i := 62) rfl)) (hw _ (List.mem_of_getElem? (i := 4) rfl)) (by decide) (by decide)) q125a q125c (g := (mkF m 145 #[.val (.int xa), .val (.int xb), .val (.int xc), .val (.int xd), .val (.int xn), .val (.int xs), .val (.int (Int32.ofNat cn)), .val (.ref b4), .val (.ref b19), .val (.ref b33), .val (.int (0 : Int32)), .val (.int (Int32.ofNat mn)), .unset, .unset, .unset, .unset] [(.int (0 : Int32)), (.ref b33)])) rfl (by rw [hml]; rfl) (Steps.refl _) (argsL := [(.int (0 : Int32))]) (rest := []) (lenOf pd__28I_29Z rfl) rfl (by show 2 * 0 + _ ≤ _; exact Nat.le_of_eq rfl) (hb hby at_145) (fun _ _ => ⟨rfl, rfl, (by decide : 11 + 0 ≤ _), (by decide : 69 + 0 ≤ _)⟩)
    dsimp only [Pt.U, Pt.locs, Pt.cells, Pt.slots] at X125 l125 y125 z125 st125 hQ125
    subst y125 z125
    obtain ⟨rfl, N125q, R125⟩ := hQ125
    have N125 : Fr n0 L125 := by rw [l125]; exact Fr.app N36 N125q
    replace R125 : Rep Z n0 T125.heap ((b33, Obj "com/example/witgen/witgen/regex/Partition" [("elements", "[I", (.ref b136)), ("location", "[I", (.ref b236)), ("blockOf", "[I", (.ref b336)), ("start", "[I", (.ref b436)), ("end", "[I", (.ref b536)), ("marked", "[I", (.ref b636)), ("touched", "[I", (.ref b736)), ("blocks", "I", (.int (Int32.ofNat cn))), ("touchedCount", "I", (.int (Int32.ofNat 0)))]) :: (b236, Ar .int (nl (pS4 [y0, y1, y2, y3] cn).2.1)) :: (b336, Ar .int (nl [y0, y1, y2, y3])) :: (b436, Ar .int (nl (pSt [y0, y1, y2, y3] cn))) :: (b136, Ar .int (nl (pS4 [y0, y1, y2, y3] cn).1)) :: (b536, Ar .int (nl (pEn [y0, y1, y2, y3] cn))) :: (b636, Ar .int (nl (List.replicate (max [y0, y1, y2, y3].length cn) 0))) :: (b736, Ar .int (nl (List.replicate (max [y0, y1, y2, y3].length cn) 0))) :: (b19, Ar .int (nl [y0, y1, y2, y3])) :: (b4, Ar .int (nl [y0, y1, y2, y3])) :: []) := R125
    have pre130 : ∀ t, Steps p.tables e below (T125.setTop (mkF m 148 #[.val (.int xa), .val (.int xb), .val (.int xc), .val (.int xd), .val (.int xn), .val (.int xs), .val (.int (Int32.ofNat cn)), .val (.ref b4), .val (.ref b19), .val (.ref b33), .val (.int (0 : Int32)), .val (.int (Int32.ofNat mn)), .unset, .unset, .unset, .unset] [(.int (F7 0 (pS4 [y0, y1, y2, y3] cn).2.1 [y0, y1, y2, y3] (pSt [y0, y1, y2, y3] cn)))])) t → Steps p.tables e below (s₁.setTop (entryFrame m #[(.int xa), (.int xb), (.int xc), (.int xd), (.int xn), (.int xs)] maxLocals)) t := fun t k => pre124 t (st125.trans k)
    have pre131 : ∀ t, Steps p.tables e below (T125.setTop (mkF m 155 #[.val (.int xa), .val (.int xb), .val (.int xc), .val (.int xd), .val (.int xn), .val (.int xs), .val (.int (Int32.ofNat cn)), .val (.ref b4), .val (.ref b19), .val (.ref b33), .val (.int (0 : Int32)), .val (.int (Int32.ofNat mn)), .unset, .unset, .unset, .unset] [(.int (0 : Int32)), (.int (Int32.ofNat mn)), (.int (0 : Int32)), (.ref b4), (.int (F7 0 (pS4 [y0, y1, y2, y3] cn).2.1 [y0, y1, y2, y3] (pSt [y0, y1, y2, y3] cn)))])) t → Steps p.tables e below (s₁.setTop (entryFrame m #[(.int xa), (.int xb), (.int xc), (.int xd), (.int xn), (.int xs)] maxLocals)) t := fun t k => pre130 t (by
      show Steps p.tables e below (T125.setTop (mkF m 148 #[.val (.int xa), .val (.int xb), .val (.int xc), .val (.int xd), .val (.int xn), .val (.int xs), .val (.int (Int32.ofNat cn)), .val (.ref b4), .val (.ref b19), .val (.ref b33), .val (.int (0 : Int32)), .val (.int (Int32.ofNat mn)), .unset, .unset, .unset, .unset] [(.int (F7 0 (pS4 [y0, y1, y2, y3] cn).2.1 [y0, y1, y2, y3] (pSt [y0, y1, y2, y3] cn)))])) _
      refine XS.aload X125.here hx rfl (hb hby at_148) rfl rfl ?_
      refine XS.iconst X125.here hx rfl (hb hby at_150) ?_
      refine XS.iload X125.here hx rfl (hb hby at_151) rfl ?_
      refine XS.iload X125.here hx rfl (hb hby at_153) rfl ?_
      exact k)
    have R133 : Rep Z n0 T125.heap ((b4, Ar .int (nl [y0, y1, y2, y3])) :: (b33, Obj "com/example/witgen/witgen/regex/Partition" [("elements", "[I", (.ref b136)), ("location", "[I", (.ref b236)), ("blockOf", "[I", (.ref b336)), ("start", "[I", (.ref b436)), ("end", "[I", (.ref b536)), ("marked", "[I", (.ref b636)), ("touched", "[I", (.ref b736)), ("blocks", "I", (.int (Int32.ofNat cn))), ("touchedCount", "I", (.int (Int32.ofNat 0)))]) :: (b236, Ar .int (nl (pS4 [y0, y1, y2, y3] cn).2.1)) :: (b336, Ar .int (nl [y0, y1, y2, y3])) :: (b436, Ar .int (nl (pSt [y0, y1, y2, y3] cn))) :: (b136, Ar .int (nl (pS4 [y0, y1, y2, y3] cn).1)) :: (b536, Ar .int (nl (pEn [y0, y1, y2, y3] cn))) :: (b636, Ar .int (nl (List.replicate (max [y0, y1, y2, y3].length cn) 0))) :: (b736, Ar .int (nl (List.replicate (max [y0, y1, y2, y3].length cn) 0))) :: (b19, Ar .int (nl [y0, y1, y2, y3])) :: []) := R125.front 9 rfl rfl
    obtain ⟨_, _, ⟨T132, L132, k132, n132⟩, -, X132, ⟨Lc132, hQ132, l132, y132, z132⟩, st132⟩ := Jvm.LawKit.callS X125 hx (y := (⟨"com/example/witgen/witgen/regex/PartitionIsFirstOfBlockPinLaw", "firstRef", "([IIIZ)Z"⟩ : MethodName)) hown (mvT hZ (hw _ (List.mem_of_getElem? (i := 63) rfl))) (mvT hZ (hw _ (List.mem_of_getElem? (i := 64) rfl))) (mvT hZ (hw _ (List.mem_of_getElem? (i := 65) rfl))) (mvT hZ (hw _ (List.mem_of_getElem? (i := 66) rfl))) (by decide) (backOf (W := 1) (rm8 l Z a0 hw [] b4 0 mn (0 : Int32) _ T125.heap n0 _ R133 (show (0 : Nat) < 4 by decide) (by decide) (show (0 : Nat) < 4 by decide) (by decide) (show (1 : Nat) < 4 by decide) (by decide) (show (2 : Nat) < 4 by decide) (by decide) (by simpa using hm4) (by omega)) hZ (hw _ (List.mem_of_getElem? (i := 66) rfl)) (hw _ (List.mem_of_getElem? (i := 65) rfl)) (by decide) (by decide)) (g := (mkF m 155 #[.val (.int xa), .val (.int xb), .val (.int xc), .val (.int xd), .val (.int xn), .val (.int xs), .val (.int (Int32.ofNat cn)), .val (.ref b4), .val (.ref b19), .val (.ref b33), .val (.int (0 : Int32)), .val (.int (Int32.ofNat mn)), .unset, .unset, .unset, .unset] [(.int (0 : Int32)), (.int (Int32.ofNat mn)), (.int (0 : Int32)), (.ref b4), (.int (F7 0 (pS4 [y0, y1, y2, y3] cn).2.1 [y0, y1, y2, y3] (pSt [y0, y1, y2, y3] cn)))])) rfl (by rw [hml]; rfl) (argsL := [(.ref b4), (.int (0 : Int32)), (.int (Int32.ofNat mn)), (.int (0 : Int32))]) (rest := [(.int (F7 0 (pS4 [y0, y1, y2, y3] cn).2.1 [y0, y1, y2, y3] (pSt [y0, y1, y2, y3] cn)))]) (lenOf pd__28_5bIIIZ_29Z rfl) rfl (by show 2 * 0 + _ ≤ _; exact Nat.le_of_eq rfl) (hb hby at_155) (fun _ _ => ⟨rfl, rfl, (by decide : 11 + 0 ≤ _), (by decide : 69 + 0 ≤ _)⟩)
    dsimp only [Pt.U, Pt.locs, Pt.cells, Pt.slots] at X132 l132 y132 z132 st132 hQ132
    subst y132 z132
    obtain ⟨rfl, N132q, R132⟩ := hQ132
    have N132 : Fr n0 L132 := by rw [l132]; exact Fr.app N125 N132q
    replace R132 : Rep Z n0 T132.heap ((b4, Ar .int (nl [y0, y1, y2, y3])) :: (b33, Obj "com/example/witgen/witgen/regex/Partition" [("elements", "[I", (.ref b136)), ("location", "[I", (.ref b236)), ("blockOf", "[I", (.ref b336)), ("start", "[I", (.ref b436)), ("end", "[I", (.ref b536)), ("marked", "[I", (.ref b636)), ("touched", "[I", (.ref b736)), ("blocks", "I", (.int (Int32.ofNat cn))), ("touchedCount", "I", (.int (Int32.ofNat 0)))]) :: (b236, Ar .int (nl (pS4 [y0, y1, y2, y3] cn).2.1)) :: (b336, Ar .int (nl [y0, y1, y2, y3])) :: (b436, Ar .int (nl (pSt [y0, y1, y2, y3] cn))) :: (b136, Ar .int (nl (pS4 [y0, y1, y2, y3] cn).1)) :: (b536, Ar .int (nl (pEn [y0, y1, y2, y3] cn))) :: (b636, Ar .int (nl (List.replicate (max [y0, y1, y2, y3].length cn) 0))) :: (b736, Ar .int (nl (List.replicate (max [y0, y1, y2, y3].length cn) 0))) :: (b19, Ar .int (nl [y0, y1, y2, y3])) :: []) := R132
    have pre134 : ∀ t, Steps p.tables e below (T132.setTop (mkF m 158 #[.val (.int xa), .val (.int xb), .val (.int xc), .val (.int xd), .val (.int xn), .val (.int xs), .val (.int (Int32.ofNat cn)), .val (.ref b4), .val (.ref b19), .val (.ref b33), .val (.int (0 : Int32)), .val (.int (Int32.ofNat mn)), .unset, .unset, .unset, .unset] [(.int (F8 0 mn (0 : Int32) [y0, y1, y2, y3])), (.int (F7 0 (pS4 [y0, y1, y2, y3] cn).2.1 [y0, y1, y2, y3] (pSt [y0, y1, y2, y3] cn)))])) t → Steps p.tables e below (s₁.setTop (entryFrame m #[(.int xa), (.int xb), (.int xc), (.int xd), (.int xn), (.int xs)] maxLocals)) t := fun t k => pre131 t (st132 t k)
    have hb135 : (F7 0 (pS4 [y0, y1, y2, y3] cn).2.1 [y0, y1, y2, y3] (pSt [y0, y1, y2, y3] cn)) = (F8 0 mn (0 : Int32) [y0, y1, y2, y3]) := hp.2.2.2 0 (by decide) mn hm4
    have pre136 : ∀ t, Steps p.tables e below (T132.setTop (mkF m 171 #[.val (.int xa), .val (.int xb), .val (.int xc), .val (.int xd), .val (.int xn), .val (.int xs), .val (.int (Int32.ofNat cn)), .val (.ref b4), .val (.ref b19), .val (.ref b33), .val (.int (0 : Int32)), .val (.int (Int32.ofNat mn)), .val (.int (1 : Int32)), .unset, .unset, .unset] [(.int (1 : Int32)), (.ref b33)])) t → Steps p.tables e below (s₁.setTop (entryFrame m #[(.int xa), (.int xb), (.int xc), (.int xd), (.int xn), (.int xs)] maxLocals)) t := fun t k => pre134 t (by
      show Steps p.tables e below (T132.setTop (mkF m 158 #[.val (.int xa), .val (.int xb), .val (.int xc), .val (.int xd), .val (.int xn), .val (.int xs), .val (.int (Int32.ofNat cn)), .val (.ref b4), .val (.ref b19), .val (.ref b33), .val (.int (0 : Int32)), .val (.int (Int32.ofNat mn)), .unset, .unset, .unset, .unset] [(.int (F8 0 mn (0 : Int32) [y0, y1, y2, y3])), (.int (F7 0 (pS4 [y0, y1, y2, y3] cn).2.1 [y0, y1, y2, y3] (pSt [y0, y1, y2, y3] cn)))])) _
      refine XS.icmpNo X132.here hx rfl (hb hby at_158) rfl (teq hb135).2 ?_
      refine XS.iconst X132.here hx rfl (hb hby at_161) ?_
      refine XS.goto X132.here hx rfl (pc0 := 162) (pc' := 166) rfl (hb hby at_162) (by decide) (by decide) ?_
      refine XS.istore X132.here hx rfl (hb hby at_166) rfl (l' := #[.val (.int xa), .val (.int xb), .val (.int xc), .val (.int xd), .val (.int xn), .val (.int xs), .val (.int (Int32.ofNat cn)), .val (.ref b4), .val (.ref b19), .val (.ref b33), .val (.int (0 : Int32)), .val (.int (Int32.ofNat mn)), .val (.int (1 : Int32)), .unset, .unset, .unset]) rfl ?_
      refine XS.aload X132.here hx rfl (hb hby at_168) rfl rfl ?_
      refine XS.iconst X132.here hx rfl (hb hby at_170) ?_
      exact k)
    have R138 : Rep Z n0 T132.heap ((b436, Ar .int (nl (pSt [y0, y1, y2, y3] cn))) :: (b4, Ar .int (nl [y0, y1, y2, y3])) :: (b33, Obj "com/example/witgen/witgen/regex/Partition" [("elements", "[I", (.ref b136)), ("location", "[I", (.ref b236)), ("blockOf", "[I", (.ref b336)), ("start", "[I", (.ref b436)), ("end", "[I", (.ref b536)), ("marked", "[I", (.ref b636)), ("touched", "[I", (.ref b736)), ("blocks", "I", (.int (Int32.ofNat cn))), ("touchedCount", "I", (.int (Int32.ofNat 0)))]) :: (b236, Ar .int (nl (pS4 [y0, y1, y2, y3] cn).2.1)) :: (b336, Ar .int (nl [y0, y1, y2, y3])) :: (b136, Ar .int (nl (pS4 [y0, y1, y2, y3] cn).1)) :: (b536, Ar .int (nl (pEn [y0, y1, y2, y3] cn))) :: (b636, Ar .int (nl (List.replicate (max [y0, y1, y2, y3].length cn) 0))) :: (b736, Ar .int (nl (List.replicate (max [y0, y1, y2, y3].length cn) 0))) :: (b19, Ar .int (nl [y0, y1, y2, y3])) :: []) := R132.front 4 rfl rfl
    have R139 : Rep Z n0 T132.heap ((b336, Ar .int (nl [y0, y1, y2, y3])) :: (b436, Ar .int (nl (pSt [y0, y1, y2, y3] cn))) :: (b4, Ar .int (nl [y0, y1, y2, y3])) :: (b33, Obj "com/example/witgen/witgen/regex/Partition" [("elements", "[I", (.ref b136)), ("location", "[I", (.ref b236)), ("blockOf", "[I", (.ref b336)), ("start", "[I", (.ref b436)), ("end", "[I", (.ref b536)), ("marked", "[I", (.ref b636)), ("touched", "[I", (.ref b736)), ("blocks", "I", (.int (Int32.ofNat cn))), ("touchedCount", "I", (.int (Int32.ofNat 0)))]) :: (b236, Ar .int (nl (pS4 [y0, y1, y2, y3] cn).2.1)) :: (b136, Ar .int (nl (pS4 [y0, y1, y2, y3] cn).1)) :: (b536, Ar .int (nl (pEn [y0, y1, y2, y3] cn))) :: (b636, Ar .int (nl (List.replicate (max [y0, y1, y2, y3].length cn) 0))) :: (b736, Ar .int (nl (List.replicate (max [y0, y1, y2, y3].length cn) 0))) :: (b19, Ar .int (nl [y0, y1, y2, y3])) :: []) := R138.front 4 rfl rfl
    have R140 : Rep Z n0 T132.heap ((b236, Ar .int (nl (pS4 [y0, y1, y2, y3] cn).2.1)) :: (b336, Ar .int (nl [y0, y1, y2, y3])) :: (b436, Ar .int (nl (pSt [y0, y1, y2, y3] cn))) :: (b4, Ar .int (nl [y0, y1, y2, y3])) :: (b33, Obj "com/example/witgen/witgen/regex/Partition" [("elements", "[I", (.ref b136)), ("location", "[I", (.ref b236)), ("blockOf", "[I", (.ref b336)), ("start", "[I", (.ref b436)), ("end", "[I", (.ref b536)), ("marked", "[I", (.ref b636)), ("touched", "[I", (.ref b736)), ("blocks", "I", (.int (Int32.ofNat cn))), ("touchedCount", "I", (.int (Int32.ofNat 0)))]) :: (b136, Ar .int (nl (pS4 [y0, y1, y2, y3] cn).1)) :: (b536, Ar .int (nl (pEn [y0, y1, y2, y3] cn))) :: (b636, Ar .int (nl (List.replicate (max [y0, y1, y2, y3].length cn) 0))) :: (b736, Ar .int (nl (List.replicate (max [y0, y1, y2, y3].length cn) 0))) :: (b19, Ar .int (nl [y0, y1, y2, y3])) :: []) := R139.front 4 rfl rfl
    have R141 : Rep Z n0 T132.heap ((b33, Obj "com/example/witgen/witgen/regex/Partition" [("elements", "[I", (.ref b136)), ("location", "[I", (.ref b236)), ("blockOf", "[I", (.ref b336)), ("start", "[I", (.ref b436)), ("end", "[I", (.ref b536)), ("marked", "[I", (.ref b636)), ("touched", "[I", (.ref b736)), ("blocks", "I", (.int (Int32.ofNat cn))), ("touchedCount", "I", (.int (Int32.ofNat 0)))]) :: (b236, Ar .int (nl (pS4 [y0, y1, y2, y3] cn).2.1)) :: (b336, Ar .int (nl [y0, y1, y2, y3])) :: (b436, Ar .int (nl (pSt [y0, y1, y2, y3] cn))) :: (b4, Ar .int (nl [y0, y1, y2, y3])) :: (b136, Ar .int (nl (pS4 [y0, y1, y2, y3] cn).1)) :: (b536, Ar .int (nl (pEn [y0, y1, y2, y3] cn))) :: (b636, Ar .int (nl (List.replicate (max [y0, y1, y2, y3].length cn) 0))) :: (b736, Ar .int (nl (List.replicate (max [y0, y1, y2, y3].length cn) 0))) :: (b19, Ar .int (nl [y0, y1, y2, y3])) :: []) := R140.front 4 rfl rfl
    obtain ⟨cq137, kq137, q137a, q137b, q137c⟩ := isOf hZ rfl (R141.exa (i := 0) rfl)
    obtain ⟨_, _, ⟨T137, L137, k137, n137⟩, -, X137, ⟨Lc137, hQ137, l137, y137, z137⟩, st137⟩ := X132.virtualBack hx (y := (⟨"com/example/witgen/witgen/regex/Partition", "isFirstOfBlock", "(I)Z"⟩ : MethodName)) (z := (⟨"com/example/witgen/witgen/regex/Partition", "isFirstOfBlock", "(I)Z"⟩ : MethodName)) hown (mvT hZ (hw _ (List.mem_of_getElem? (i := 58) rfl))) (mvT hZ (hw _ (List.mem_of_getElem? (i := 59) rfl))) (notFace_of_selects (args := #[]) (mvT hZ (hw _ (List.mem_of_getElem? (i := 61) rfl)))) (mvT hZ (hw _ (List.mem_of_getElem? (i := 61) rfl))) (mvT hZ (hw _ (List.mem_of_getElem? (i := 60) rfl))) (by decide) (backOf (W := 0) (rm7 l Z a0 hw [] b33 1 _ _ _ _ _ _ _ _ _ _ _ _ T132.heap n0 _ R141 (Nat.lt_of_lt_of_eq (show (1 : Nat) < 4 by decide) (hp.2.1).symm) (by decide) (show (1 : Nat) < 4 by decide) (by decide) (Nat.lt_of_lt_of_le (own_el (i := 1) rfl ha0 ha1 ha2 ha3 (by decide)) hp.2.2.1) (Nat.lt_of_lt_of_le (own_el (i := 1) rfl ha0 ha1 ha2 ha3 (by decide)) (by omega))) hZ (hw _ (List.mem_of_getElem? (i := 62) rfl)) (hw _ (List.mem_of_getElem? (i := 4) rfl)) (by decide) (by decide)) q137a q137c (g := (mkF m 171 #[.val (.int xa), .val (.int xb), .val (.int xc), .val (.int xd), .val (.int xn), .val (.int xs), .val (.int (Int32.ofNat cn)), .val (.ref b4), .val (.ref b19), .val (.ref b33), .val (.int (0 : Int32)), .val (.int (Int32.ofNat mn)), .val (.int (1 : Int32)), .unset, .unset, .unset] [(.int (1 : Int32)), (.ref b33)])) rfl (by rw [hml]; rfl) (Steps.refl _) (argsL := [(.int (1 : Int32))]) (rest := []) (lenOf pd__28I_29Z rfl) rfl (by show 2 * 0 + _ ≤ _; exact Nat.le_of_eq rfl) (hb hby at_171) (fun _ _ => ⟨rfl, rfl, (by decide : 11 + 0 ≤ _), (by decide : 69 + 0 ≤ _)⟩)
    dsimp only [Pt.U, Pt.locs, Pt.cells, Pt.slots] at X137 l137 y137 z137 st137 hQ137
    subst y137 z137
    obtain ⟨rfl, N137q, R137⟩ := hQ137
    have N137 : Fr n0 L137 := by rw [l137]; exact Fr.app N132 N137q
    replace R137 : Rep Z n0 T137.heap ((b33, Obj "com/example/witgen/witgen/regex/Partition" [("elements", "[I", (.ref b136)), ("location", "[I", (.ref b236)), ("blockOf", "[I", (.ref b336)), ("start", "[I", (.ref b436)), ("end", "[I", (.ref b536)), ("marked", "[I", (.ref b636)), ("touched", "[I", (.ref b736)), ("blocks", "I", (.int (Int32.ofNat cn))), ("touchedCount", "I", (.int (Int32.ofNat 0)))]) :: (b236, Ar .int (nl (pS4 [y0, y1, y2, y3] cn).2.1)) :: (b336, Ar .int (nl [y0, y1, y2, y3])) :: (b436, Ar .int (nl (pSt [y0, y1, y2, y3] cn))) :: (b4, Ar .int (nl [y0, y1, y2, y3])) :: (b136, Ar .int (nl (pS4 [y0, y1, y2, y3] cn).1)) :: (b536, Ar .int (nl (pEn [y0, y1, y2, y3] cn))) :: (b636, Ar .int (nl (List.replicate (max [y0, y1, y2, y3].length cn) 0))) :: (b736, Ar .int (nl (List.replicate (max [y0, y1, y2, y3].length cn) 0))) :: (b19, Ar .int (nl [y0, y1, y2, y3])) :: []) := R137
    have pre142 : ∀ t, Steps p.tables e below (T137.setTop (mkF m 174 #[.val (.int xa), .val (.int xb), .val (.int xc), .val (.int xd), .val (.int xn), .val (.int xs), .val (.int (Int32.ofNat cn)), .val (.ref b4), .val (.ref b19), .val (.ref b33), .val (.int (0 : Int32)), .val (.int (Int32.ofNat mn)), .val (.int (1 : Int32)), .unset, .unset, .unset] [(.int (F7 1 (pS4 [y0, y1, y2, y3] cn).2.1 [y0, y1, y2, y3] (pSt [y0, y1, y2, y3] cn)))])) t → Steps p.tables e below (s₁.setTop (entryFrame m #[(.int xa), (.int xb), (.int xc), (.int xd), (.int xn), (.int xs)] maxLocals)) t := fun t k => pre136 t (st137.trans k)
    have pre143 : ∀ t, Steps p.tables e below (T137.setTop (mkF m 181 #[.val (.int xa), .val (.int xb), .val (.int xc), .val (.int xd), .val (.int xn), .val (.int xs), .val (.int (Int32.ofNat cn)), .val (.ref b4), .val (.ref b19), .val (.ref b33), .val (.int (0 : Int32)), .val (.int (Int32.ofNat mn)), .val (.int (1 : Int32)), .unset, .unset, .unset] [(.int (0 : Int32)), (.int (Int32.ofNat mn)), (.int (1 : Int32)), (.ref b4), (.int (F7 1 (pS4 [y0, y1, y2, y3] cn).2.1 [y0, y1, y2, y3] (pSt [y0, y1, y2, y3] cn)))])) t → Steps p.tables e below (s₁.setTop (entryFrame m #[(.int xa), (.int xb), (.int xc), (.int xd), (.int xn), (.int xs)] maxLocals)) t := fun t k => pre142 t (by
      show Steps p.tables e below (T137.setTop (mkF m 174 #[.val (.int xa), .val (.int xb), .val (.int xc), .val (.int xd), .val (.int xn), .val (.int xs), .val (.int (Int32.ofNat cn)), .val (.ref b4), .val (.ref b19), .val (.ref b33), .val (.int (0 : Int32)), .val (.int (Int32.ofNat mn)), .val (.int (1 : Int32)), .unset, .unset, .unset] [(.int (F7 1 (pS4 [y0, y1, y2, y3] cn).2.1 [y0, y1, y2, y3] (pSt [y0, y1, y2, y3] cn)))])) _
      refine XS.aload X137.here hx rfl (hb hby at_174) rfl rfl ?_
      refine XS.iconst X137.here hx rfl (hb hby at_176) ?_
      refine XS.iload X137.here hx rfl (hb hby at_177) rfl ?_
      refine XS.iload X137.here hx rfl (hb hby at_179) rfl ?_
      exact k)
    have R145 : Rep Z n0 T137.heap ((b4, Ar .int (nl [y0, y1, y2, y3])) :: (b33, Obj "com/example/witgen/witgen/regex/Partition" [("elements", "[I", (.ref b136)), ("location", "[I", (.ref b236)), ("blockOf", "[I", (.ref b336)), ("start", "[I", (.ref b436)), ("end", "[I", (.ref b536)), ("marked", "[I", (.ref b636)), ("touched", "[I", (.ref b736)), ("blocks", "I", (.int (Int32.ofNat cn))), ("touchedCount", "I", (.int (Int32.ofNat 0)))]) :: (b236, Ar .int (nl (pS4 [y0, y1, y2, y3] cn).2.1)) :: (b336, Ar .int (nl [y0, y1, y2, y3])) :: (b436, Ar .int (nl (pSt [y0, y1, y2, y3] cn))) :: (b136, Ar .int (nl (pS4 [y0, y1, y2, y3] cn).1)) :: (b536, Ar .int (nl (pEn [y0, y1, y2, y3] cn))) :: (b636, Ar .int (nl (List.replicate (max [y0, y1, y2, y3].length cn) 0))) :: (b736, Ar .int (nl (List.replicate (max [y0, y1, y2, y3].length cn) 0))) :: (b19, Ar .int (nl [y0, y1, y2, y3])) :: []) := R137.front 4 rfl rfl
    obtain ⟨_, _, ⟨T144, L144, k144, n144⟩, -, X144, ⟨Lc144, hQ144, l144, y144, z144⟩, st144⟩ := Jvm.LawKit.callS X137 hx (y := (⟨"com/example/witgen/witgen/regex/PartitionIsFirstOfBlockPinLaw", "firstRef", "([IIIZ)Z"⟩ : MethodName)) hown (mvT hZ (hw _ (List.mem_of_getElem? (i := 63) rfl))) (mvT hZ (hw _ (List.mem_of_getElem? (i := 64) rfl))) (mvT hZ (hw _ (List.mem_of_getElem? (i := 65) rfl))) (mvT hZ (hw _ (List.mem_of_getElem? (i := 66) rfl))) (by decide) (backOf (W := 1) (rm8 l Z a0 hw [] b4 1 mn (0 : Int32) _ T137.heap n0 _ R145 (show (1 : Nat) < 4 by decide) (by decide) (show (0 : Nat) < 4 by decide) (by decide) (show (1 : Nat) < 4 by decide) (by decide) (show (2 : Nat) < 4 by decide) (by decide) (by simpa using hm4) (by omega)) hZ (hw _ (List.mem_of_getElem? (i := 66) rfl)) (hw _ (List.mem_of_getElem? (i := 65) rfl)) (by decide) (by decide)) (g := (mkF m 181 #[.val (.int xa), .val (.int xb), .val (.int xc), .val (.int xd), .val (.int xn), .val (.int xs), .val (.int (Int32.ofNat cn)), .val (.ref b4), .val (.ref b19), .val (.ref b33), .val (.int (0 : Int32)), .val (.int (Int32.ofNat mn)), .val (.int (1 : Int32)), .unset, .unset, .unset] [(.int (0 : Int32)), (.int (Int32.ofNat mn)), (.int (1 : Int32)), (.ref b4), (.int (F7 1 (pS4 [y0, y1, y2, y3] cn).2.1 [y0, y1, y2, y3] (pSt [y0, y1, y2, y3] cn)))])) rfl (by rw [hml]; rfl) (argsL := [(.ref b4), (.int (1 : Int32)), (.int (Int32.ofNat mn)), (.int (0 : Int32))]) (rest := [(.int (F7 1 (pS4 [y0, y1, y2, y3] cn).2.1 [y0, y1, y2, y3] (pSt [y0, y1, y2, y3] cn)))]) (lenOf pd__28_5bIIIZ_29Z rfl) rfl (by show 2 * 0 + _ ≤ _; exact Nat.le_of_eq rfl) (hb hby at_181) (fun _ _ => ⟨rfl, rfl, (by decide : 11 + 0 ≤ _), (by decide : 69 + 0 ≤ _)⟩)
    dsimp only [Pt.U, Pt.locs, Pt.cells, Pt.slots] at X144 l144 y144 z144 st144 hQ144
    subst y144 z144
    obtain ⟨rfl, N144q, R144⟩ := hQ144
    have N144 : Fr n0 L144 := by rw [l144]; exact Fr.app N137 N144q
    replace R144 : Rep Z n0 T144.heap ((b4, Ar .int (nl [y0, y1, y2, y3])) :: (b33, Obj "com/example/witgen/witgen/regex/Partition" [("elements", "[I", (.ref b136)), ("location", "[I", (.ref b236)), ("blockOf", "[I", (.ref b336)), ("start", "[I", (.ref b436)), ("end", "[I", (.ref b536)), ("marked", "[I", (.ref b636)), ("touched", "[I", (.ref b736)), ("blocks", "I", (.int (Int32.ofNat cn))), ("touchedCount", "I", (.int (Int32.ofNat 0)))]) :: (b236, Ar .int (nl (pS4 [y0, y1, y2, y3] cn).2.1)) :: (b336, Ar .int (nl [y0, y1, y2, y3])) :: (b436, Ar .int (nl (pSt [y0, y1, y2, y3] cn))) :: (b136, Ar .int (nl (pS4 [y0, y1, y2, y3] cn).1)) :: (b536, Ar .int (nl (pEn [y0, y1, y2, y3] cn))) :: (b636, Ar .int (nl (List.replicate (max [y0, y1, y2, y3].length cn) 0))) :: (b736, Ar .int (nl (List.replicate (max [y0, y1, y2, y3].length cn) 0))) :: (b19, Ar .int (nl [y0, y1, y2, y3])) :: []) := R144
    have pre146 : ∀ t, Steps p.tables e below (T144.setTop (mkF m 184 #[.val (.int xa), .val (.int xb), .val (.int xc), .val (.int xd), .val (.int xn), .val (.int xs), .val (.int (Int32.ofNat cn)), .val (.ref b4), .val (.ref b19), .val (.ref b33), .val (.int (0 : Int32)), .val (.int (Int32.ofNat mn)), .val (.int (1 : Int32)), .unset, .unset, .unset] [(.int (F8 1 mn (0 : Int32) [y0, y1, y2, y3])), (.int (F7 1 (pS4 [y0, y1, y2, y3] cn).2.1 [y0, y1, y2, y3] (pSt [y0, y1, y2, y3] cn)))])) t → Steps p.tables e below (s₁.setTop (entryFrame m #[(.int xa), (.int xb), (.int xc), (.int xd), (.int xn), (.int xs)] maxLocals)) t := fun t k => pre143 t (st144 t k)
    have hb147 : (F7 1 (pS4 [y0, y1, y2, y3] cn).2.1 [y0, y1, y2, y3] (pSt [y0, y1, y2, y3] cn)) = (F8 1 mn (0 : Int32) [y0, y1, y2, y3]) := hp.2.2.2 1 (by decide) mn hm4
    have pre148 : ∀ t, Steps p.tables e below (T144.setTop (mkF m 197 #[.val (.int xa), .val (.int xb), .val (.int xc), .val (.int xd), .val (.int xn), .val (.int xs), .val (.int (Int32.ofNat cn)), .val (.ref b4), .val (.ref b19), .val (.ref b33), .val (.int (0 : Int32)), .val (.int (Int32.ofNat mn)), .val (.int (1 : Int32)), .val (.int (1 : Int32)), .unset, .unset] [(.int (2 : Int32)), (.ref b33)])) t → Steps p.tables e below (s₁.setTop (entryFrame m #[(.int xa), (.int xb), (.int xc), (.int xd), (.int xn), (.int xs)] maxLocals)) t := fun t k => pre146 t (by
      show Steps p.tables e below (T144.setTop (mkF m 184 #[.val (.int xa), .val (.int xb), .val (.int xc), .val (.int xd), .val (.int xn), .val (.int xs), .val (.int (Int32.ofNat cn)), .val (.ref b4), .val (.ref b19), .val (.ref b33), .val (.int (0 : Int32)), .val (.int (Int32.ofNat mn)), .val (.int (1 : Int32)), .unset, .unset, .unset] [(.int (F8 1 mn (0 : Int32) [y0, y1, y2, y3])), (.int (F7 1 (pS4 [y0, y1, y2, y3] cn).2.1 [y0, y1, y2, y3] (pSt [y0, y1, y2, y3] cn)))])) _
      refine XS.icmpNo X144.here hx rfl (hb hby at_184) rfl (teq hb147).2 ?_
      refine XS.iconst X144.here hx rfl (hb hby at_187) ?_
      refine XS.goto X144.here hx rfl (pc0 := 188) (pc' := 192) rfl (hb hby at_188) (by decide) (by decide) ?_
      refine XS.istore X144.here hx rfl (hb hby at_192) rfl (l' := #[.val (.int xa), .val (.int xb), .val (.int xc), .val (.int xd), .val (.int xn), .val (.int xs), .val (.int (Int32.ofNat cn)), .val (.ref b4), .val (.ref b19), .val (.ref b33), .val (.int (0 : Int32)), .val (.int (Int32.ofNat mn)), .val (.int (1 : Int32)), .val (.int (1 : Int32)), .unset, .unset]) rfl ?_
      refine XS.aload X144.here hx rfl (hb hby at_194) rfl rfl ?_
      refine XS.iconst X144.here hx rfl (hb hby at_196) ?_
      exact k)
    have R150 : Rep Z n0 T144.heap ((b436, Ar .int (nl (pSt [y0, y1, y2, y3] cn))) :: (b4, Ar .int (nl [y0, y1, y2, y3])) :: (b33, Obj "com/example/witgen/witgen/regex/Partition" [("elements", "[I", (.ref b136)), ("location", "[I", (.ref b236)), ("blockOf", "[I", (.ref b336)), ("start", "[I", (.ref b436)), ("end", "[I", (.ref b536)), ("marked", "[I", (.ref b636)), ("touched", "[I", (.ref b736)), ("blocks", "I", (.int (Int32.ofNat cn))), ("touchedCount", "I", (.int (Int32.ofNat 0)))]) :: (b236, Ar .int (nl (pS4 [y0, y1, y2, y3] cn).2.1)) :: (b336, Ar .int (nl [y0, y1, y2, y3])) :: (b136, Ar .int (nl (pS4 [y0, y1, y2, y3] cn).1)) :: (b536, Ar .int (nl (pEn [y0, y1, y2, y3] cn))) :: (b636, Ar .int (nl (List.replicate (max [y0, y1, y2, y3].length cn) 0))) :: (b736, Ar .int (nl (List.replicate (max [y0, y1, y2, y3].length cn) 0))) :: (b19, Ar .int (nl [y0, y1, y2, y3])) :: []) := R144.front 4 rfl rfl
    have R151 : Rep Z n0 T144.heap ((b336, Ar .int (nl [y0, y1, y2, y3])) :: (b436, Ar .int (nl (pSt [y0, y1, y2, y3] cn))) :: (b4, Ar .int (nl [y0, y1, y2, y3])) :: (b33, Obj "com/example/witgen/witgen/regex/Partition" [("elements", "[I", (.ref b136)), ("location", "[I", (.ref b236)), ("blockOf", "[I", (.ref b336)), ("start", "[I", (.ref b436)), ("end", "[I", (.ref b536)), ("marked", "[I", (.ref b636)), ("touched", "[I", (.ref b736)), ("blocks", "I", (.int (Int32.ofNat cn))), ("touchedCount", "I", (.int (Int32.ofNat 0)))]) :: (b236, Ar .int (nl (pS4 [y0, y1, y2, y3] cn).2.1)) :: (b136, Ar .int (nl (pS4 [y0, y1, y2, y3] cn).1)) :: (b536, Ar .int (nl (pEn [y0, y1, y2, y3] cn))) :: (b636, Ar .int (nl (List.replicate (max [y0, y1, y2, y3].length cn) 0))) :: (b736, Ar .int (nl (List.replicate (max [y0, y1, y2, y3].length cn) 0))) :: (b19, Ar .int (nl [y0, y1, y2, y3])) :: []) := R150.front 4 rfl rfl
    have R152 : Rep Z n0 T144.heap ((b236, Ar .int (nl (pS4 [y0, y1, y2, y3] cn).2.1)) :: (b336, Ar .int (nl [y0, y1, y2, y3])) :: (b436, Ar .int (nl (pSt [y0, y1, y2, y3] cn))) :: (b4, Ar .int (nl [y0, y1, y2, y3])) :: (b33, Obj "com/example/witgen/witgen/regex/Partition" [("elements", "[I", (.ref b136)), ("location", "[I", (.ref b236)), ("blockOf", "[I", (.ref b336)), ("start", "[I", (.ref b436)), ("end", "[I", (.ref b536)), ("marked", "[I", (.ref b636)), ("touched", "[I", (.ref b736)), ("blocks", "I", (.int (Int32.ofNat cn))), ("touchedCount", "I", (.int (Int32.ofNat 0)))]) :: (b136, Ar .int (nl (pS4 [y0, y1, y2, y3] cn).1)) :: (b536, Ar .int (nl (pEn [y0, y1, y2, y3] cn))) :: (b636, Ar .int (nl (List.replicate (max [y0, y1, y2, y3].length cn) 0))) :: (b736, Ar .int (nl (List.replicate (max [y0, y1, y2, y3].length cn) 0))) :: (b19, Ar .int (nl [y0, y1, y2, y3])) :: []) := R151.front 4 rfl rfl
    have R153 : Rep Z n0 T144.heap ((b33, Obj "com/example/witgen/witgen/regex/Partition" [("elements", "[I", (.ref b136)), ("location", "[I", (.ref b236)), ("blockOf", "[I", (.ref b336)), ("start", "[I", (.ref b436)), ("end", "[I", (.ref b536)), ("marked", "[I", (.ref b636)), ("touched", "[I", (.ref b736)), ("blocks", "I", (.int (Int32.ofNat cn))), ("touchedCount", "I", (.int (Int32.ofNat 0)))]) :: (b236, Ar .int (nl (pS4 [y0, y1, y2, y3] cn).2.1)) :: (b336, Ar .int (nl [y0, y1, y2, y3])) :: (b436, Ar .int (nl (pSt [y0, y1, y2, y3] cn))) :: (b4, Ar .int (nl [y0, y1, y2, y3])) :: (b136, Ar .int (nl (pS4 [y0, y1, y2, y3] cn).1)) :: (b536, Ar .int (nl (pEn [y0, y1, y2, y3] cn))) :: (b636, Ar .int (nl (List.replicate (max [y0, y1, y2, y3].length cn) 0))) :: (b736, Ar .int (nl (List.replicate (max [y0, y1, y2, y3].length cn) 0))) :: (b19, Ar .int (nl [y0, y1, y2, y3])) :: []) := R152.front 4 rfl rfl
    obtain ⟨cq149, kq149, q149a, q149b, q149c⟩ := isOf hZ rfl (R153.exa (i := 0) rfl)
    obtain ⟨_, _, ⟨T149, L149, k149, n149⟩, -, X149, ⟨Lc149, hQ149, l149, y149, z149⟩, st149⟩ := X144.virtualBack hx (y := (⟨"com/example/witgen/witgen/regex/Partition", "isFirstOfBlock", "(I)Z"⟩ : MethodName)) (z := (⟨"com/example/witgen/witgen/regex/Partition", "isFirstOfBlock", "(I)Z"⟩ : MethodName)) hown (mvT hZ (hw _ (List.mem_of_getElem? (i := 58) rfl))) (mvT hZ (hw _ (List.mem_of_getElem? (i := 59) rfl))) (notFace_of_selects (args := #[]) (mvT hZ (hw _ (List.mem_of_getElem? (i := 61) rfl)))) (mvT hZ (hw _ (List.mem_of_getElem? (i := 61) rfl))) (mvT hZ (hw _ (List.mem_of_getElem? (i := 60) rfl))) (by decide) (backOf (W := 0) (rm7 l Z a0 hw [] b33 2 _ _ _ _ _ _ _ _ _ _ _ _ T144.heap n0 _ R153 (Nat.lt_of_lt_of_eq (show (2 : Nat) < 4 by decide) (hp.2.1).symm) (by decide) (show (2 : Nat) < 4 by decide) (by decide) (Nat.lt_of_lt_of_le (own_el (i := 2) rfl ha0 ha1 ha2 ha3 (by decide)) hp.2.2.1) (Nat.lt_of_lt_of_le (own_el (i := 2) rfl ha0 ha1 ha2 ha3 (by decide)) (by omega))) hZ (hw _ (List.mem_of_getElem? (i := 62) rfl)) (hw _ (List.mem_of_getElem? (i := 4) rfl)) (by decide) (by decide)) q149a q149c (g := (mkF m 197 #[.val (.int xa), .val (.int xb), .val (.int xc), .val (.int xd), .val (.int xn), .val (.int xs), .val (.int (Int32.ofNat cn)), .val (.ref b4), .val (.ref b19), .val (.ref b33), .val (.int (0 : Int32)), .val (.int (Int32.ofNat mn)), .val (.int (1 : Int32)), .val (.int (1 : Int32)), .unset, .unset] [(.int (2 : Int32)), (.ref b33)])) rfl (by rw [hml]; rfl) (Steps.refl _) (argsL := [(.int (2 : Int32))]) (rest := []) (lenOf pd__28I_29Z rfl) rfl (by show 2 * 0 + _ ≤ _; exact Nat.le_of_eq rfl) (hb hby at_197) (fun _ _ => ⟨rfl, rfl, (by decide : 11 + 0 ≤ _), (by decide : 69 + 0 ≤ _)⟩)
    dsimp only [Pt.U, Pt.locs, Pt.cells, Pt.slots] at X149 l149 y149 z149 st149 hQ149
    subst y149 z149
    obtain ⟨rfl, N149q, R149⟩ := hQ149
    have N149 : Fr n0 L149 := by rw [l149]; exact Fr.app N144 N149q
    replace R149 : Rep Z n0 T149.heap ((b33, Obj "com/example/witgen/witgen/regex/Partition" [("elements", "[I", (.ref b136)), ("location", "[I", (.ref b236)), ("blockOf", "[I", (.ref b336)), ("start", "[I", (.ref b436)), ("end", "[I", (.ref b536)), ("marked", "[I", (.ref b636)), ("touched", "[I", (.ref b736)), ("blocks", "I", (.int (Int32.ofNat cn))), ("touchedCount", "I", (.int (Int32.ofNat 0)))]) :: (b236, Ar .int (nl (pS4 [y0, y1, y2, y3] cn).2.1)) :: (b336, Ar .int (nl [y0, y1, y2, y3])) :: (b436, Ar .int (nl (pSt [y0, y1, y2, y3] cn))) :: (b4, Ar .int (nl [y0, y1, y2, y3])) :: (b136, Ar .int (nl (pS4 [y0, y1, y2, y3] cn).1)) :: (b536, Ar .int (nl (pEn [y0, y1, y2, y3] cn))) :: (b636, Ar .int (nl (List.replicate (max [y0, y1, y2, y3].length cn) 0))) :: (b736, Ar .int (nl (List.replicate (max [y0, y1, y2, y3].length cn) 0))) :: (b19, Ar .int (nl [y0, y1, y2, y3])) :: []) := R149
    have pre154 : ∀ t, Steps p.tables e below (T149.setTop (mkF m 200 #[.val (.int xa), .val (.int xb), .val (.int xc), .val (.int xd), .val (.int xn), .val (.int xs), .val (.int (Int32.ofNat cn)), .val (.ref b4), .val (.ref b19), .val (.ref b33), .val (.int (0 : Int32)), .val (.int (Int32.ofNat mn)), .val (.int (1 : Int32)), .val (.int (1 : Int32)), .unset, .unset] [(.int (F7 2 (pS4 [y0, y1, y2, y3] cn).2.1 [y0, y1, y2, y3] (pSt [y0, y1, y2, y3] cn)))])) t → Steps p.tables e below (s₁.setTop (entryFrame m #[(.int xa), (.int xb), (.int xc), (.int xd), (.int xn), (.int xs)] maxLocals)) t := fun t k => pre148 t (st149.trans k)
    have pre155 : ∀ t, Steps p.tables e below (T149.setTop (mkF m 207 #[.val (.int xa), .val (.int xb), .val (.int xc), .val (.int xd), .val (.int xn), .val (.int xs), .val (.int (Int32.ofNat cn)), .val (.ref b4), .val (.ref b19), .val (.ref b33), .val (.int (0 : Int32)), .val (.int (Int32.ofNat mn)), .val (.int (1 : Int32)), .val (.int (1 : Int32)), .unset, .unset] [(.int (0 : Int32)), (.int (Int32.ofNat mn)), (.int (2 : Int32)), (.ref b4), (.int (F7 2 (pS4 [y0, y1, y2, y3] cn).2.1 [y0, y1, y2, y3] (pSt [y0, y1, y2, y3] cn)))])) t → Steps p.tables e below (s₁.setTop (entryFrame m #[(.int xa), (.int xb), (.int xc), (.int xd), (.int xn), (.int xs)] maxLocals)) t := fun t k => pre154 t (by
      show Steps p.tables e below (T149.setTop (mkF m 200 #[.val (.int xa), .val (.int xb), .val (.int xc), .val (.int xd), .val (.int xn), .val (.int xs), .val (.int (Int32.ofNat cn)), .val (.ref b4), .val (.ref b19), .val (.ref b33), .val (.int (0 : Int32)), .val (.int (Int32.ofNat mn)), .val (.int (1 : Int32)), .val (.int (1 : Int32)), .unset, .unset] [(.int (F7 2 (pS4 [y0, y1, y2, y3] cn).2.1 [y0, y1, y2, y3] (pSt [y0, y1, y2, y3] cn)))])) _
      refine XS.aload X149.here hx rfl (hb hby at_200) rfl rfl ?_
      refine XS.iconst X149.here hx rfl (hb hby at_202) ?_
      refine XS.iload X149.here hx rfl (hb hby at_203) rfl ?_
      refine XS.iload X149.here hx rfl (hb hby at_205) rfl ?_
      exact k)
    have R157 : Rep Z n0 T149.heap ((b4, Ar .int (nl [y0, y1, y2, y3])) :: (b33, Obj "com/example/witgen/witgen/regex/Partition" [("elements", "[I", (.ref b136)), ("location", "[I", (.ref b236)), ("blockOf", "[I", (.ref b336)), ("start", "[I", (.ref b436)), ("end", "[I", (.ref b536)), ("marked", "[I", (.ref b636)), ("touched", "[I", (.ref b736)), ("blocks", "I", (.int (Int32.ofNat cn))), ("touchedCount", "I", (.int (Int32.ofNat 0)))]) :: (b236, Ar .int (nl (pS4 [y0, y1, y2, y3] cn).2.1)) :: (b336, Ar .int (nl [y0, y1, y2, y3])) :: (b436, Ar .int (nl (pSt [y0, y1, y2, y3] cn))) :: (b136, Ar .int (nl (pS4 [y0, y1, y2, y3] cn).1)) :: (b536, Ar .int (nl (pEn [y0, y1, y2, y3] cn))) :: (b636, Ar .int (nl (List.replicate (max [y0, y1, y2, y3].length cn) 0))) :: (b736, Ar .int (nl (List.replicate (max [y0, y1, y2, y3].length cn) 0))) :: (b19, Ar .int (nl [y0, y1, y2, y3])) :: []) := R149.front 4 rfl rfl
    obtain ⟨_, _, ⟨T156, L156, k156, n156⟩, -, X156, ⟨Lc156, hQ156, l156, y156, z156⟩, st156⟩ := Jvm.LawKit.callS X149 hx (y := (⟨"com/example/witgen/witgen/regex/PartitionIsFirstOfBlockPinLaw", "firstRef", "([IIIZ)Z"⟩ : MethodName)) hown (mvT hZ (hw _ (List.mem_of_getElem? (i := 63) rfl))) (mvT hZ (hw _ (List.mem_of_getElem? (i := 64) rfl))) (mvT hZ (hw _ (List.mem_of_getElem? (i := 65) rfl))) (mvT hZ (hw _ (List.mem_of_getElem? (i := 66) rfl))) (by decide) (backOf (W := 1) (rm8 l Z a0 hw [] b4 2 mn (0 : Int32) _ T149.heap n0 _ R157 (show (2 : Nat) < 4 by decide) (by decide) (show (0 : Nat) < 4 by decide) (by decide) (show (1 : Nat) < 4 by decide) (by decide) (show (2 : Nat) < 4 by decide) (by decide) (by simpa using hm4) (by omega)) hZ (hw _ (List.mem_of_getElem? (i := 66) rfl)) (hw _ (List.mem_of_getElem? (i := 65) rfl)) (by decide) (by decide)) (g := (mkF m 207 #[.val (.int xa), .val (.int xb), .val (.int xc), .val (.int xd), .val (.int xn), .val (.int xs), .val (.int (Int32.ofNat cn)), .val (.ref b4), .val (.ref b19), .val (.ref b33), .val (.int (0 : Int32)), .val (.int (Int32.ofNat mn)), .val (.int (1 : Int32)), .val (.int (1 : Int32)), .unset, .unset] [(.int (0 : Int32)), (.int (Int32.ofNat mn)), (.int (2 : Int32)), (.ref b4), (.int (F7 2 (pS4 [y0, y1, y2, y3] cn).2.1 [y0, y1, y2, y3] (pSt [y0, y1, y2, y3] cn)))])) rfl (by rw [hml]; rfl) (argsL := [(.ref b4), (.int (2 : Int32)), (.int (Int32.ofNat mn)), (.int (0 : Int32))]) (rest := [(.int (F7 2 (pS4 [y0, y1, y2, y3] cn).2.1 [y0, y1, y2, y3] (pSt [y0, y1, y2, y3] cn)))]) (lenOf pd__28_5bIIIZ_29Z rfl) rfl (by show 2 * 0 + _ ≤ _; exact Nat.le_of_eq rfl) (hb hby at_207) (fun _ _ => ⟨rfl, rfl, (by decide : 11 + 0 ≤ _), (by decide : 69 + 0 ≤ _)⟩)
    dsimp only [Pt.U, Pt.locs, Pt.cells, Pt.slots] at X156 l156 y156 z156 st156 hQ156
    subst y156 z156
    obtain ⟨rfl, N156q, R156⟩ := hQ156
    have N156 : Fr n0 L156 := by rw [l156]; exact Fr.app N149 N156q
    replace R156 : Rep Z n0 T156.heap ((b4, Ar .int (nl [y0, y1, y2, y3])) :: (b33, Obj "com/example/witgen/witgen/regex/Partition" [("elements", "[I", (.ref b136)), ("location", "[I", (.ref b236)), ("blockOf", "[I", (.ref b336)), ("start", "[I", (.ref b436)), ("end", "[I", (.ref b536)), ("marked", "[I", (.ref b636)), ("touched", "[I", (.ref b736)), ("blocks", "I", (.int (Int32.ofNat cn))), ("touchedCount", "I", (.int (Int32.ofNat 0)))]) :: (b236, Ar .int (nl (pS4 [y0, y1, y2, y3] cn).2.1)) :: (b336, Ar .int (nl [y0, y1, y2, y3])) :: (b436, Ar .int (nl (pSt [y0, y1, y2, y3] cn))) :: (b136, Ar .int (nl (pS4 [y0, y1, y2, y3] cn).1)) :: (b536, Ar .int (nl (pEn [y0, y1, y2, y3] cn))) :: (b636, Ar .int (nl (List.replicate (max [y0, y1, y2, y3].length cn) 0))) :: (b736, Ar .int (nl (List.replicate (max [y0, y1, y2, y3].length cn) 0))) :: (b19, Ar .int (nl [y0, y1, y2, y3])) :: []) := R156
    have pre158 : ∀ t, Steps p.tables e below (T156.setTop (mkF m 210 #[.val (.int xa), .val (.int xb), .val (.int xc), .val (.int xd), .val (.int xn), .val (.int xs), .val (.int (Int32.ofNat cn)), .val (.ref b4), .val (.ref b19), .val (.ref b33), .val (.int (0 : Int32)), .val (.int (Int32.ofNat mn)), .val (.int (1 : Int32)), .val (.int (1 : Int32)), .unset, .unset] [(.int (F8 2 mn (0 : Int32) [y0, y1, y2, y3])), (.int (F7 2 (pS4 [y0, y1, y2, y3] cn).2.1 [y0, y1, y2, y3] (pSt [y0, y1, y2, y3] cn)))])) t → Steps p.tables e below (s₁.setTop (entryFrame m #[(.int xa), (.int xb), (.int xc), (.int xd), (.int xn), (.int xs)] maxLocals)) t := fun t k => pre155 t (st156 t k)
    have hb159 : (F7 2 (pS4 [y0, y1, y2, y3] cn).2.1 [y0, y1, y2, y3] (pSt [y0, y1, y2, y3] cn)) = (F8 2 mn (0 : Int32) [y0, y1, y2, y3]) := hp.2.2.2 2 (by decide) mn hm4
    have pre160 : ∀ t, Steps p.tables e below (T156.setTop (mkF m 223 #[.val (.int xa), .val (.int xb), .val (.int xc), .val (.int xd), .val (.int xn), .val (.int xs), .val (.int (Int32.ofNat cn)), .val (.ref b4), .val (.ref b19), .val (.ref b33), .val (.int (0 : Int32)), .val (.int (Int32.ofNat mn)), .val (.int (1 : Int32)), .val (.int (1 : Int32)), .val (.int (1 : Int32)), .unset] [(.int (3 : Int32)), (.ref b33)])) t → Steps p.tables e below (s₁.setTop (entryFrame m #[(.int xa), (.int xb), (.int xc), (.int xd), (.int xn), (.int xs)] maxLocals)) t := fun t k => pre158 t (by
      show Steps p.tables e below (T156.setTop (mkF m 210 #[.val (.int xa), .val (.int xb), .val (.int xc), .val (.int xd), .val (.int xn), .val (.int xs), .val (.int (Int32.ofNat cn)), .val (.ref b4), .val (.ref b19), .val (.ref b33), .val (.int (0 : Int32)), .val (.int (Int32.ofNat mn)), .val (.int (1 : Int32)), .val (.int (1 : Int32)), .unset, .unset] [(.int (F8 2 mn (0 : Int32) [y0, y1, y2, y3])), (.int (F7 2 (pS4 [y0, y1, y2, y3] cn).2.1 [y0, y1, y2, y3] (pSt [y0, y1, y2, y3] cn)))])) _
      refine XS.icmpNo X156.here hx rfl (hb hby at_210) rfl (teq hb159).2 ?_
      refine XS.iconst X156.here hx rfl (hb hby at_213) ?_
      refine XS.goto X156.here hx rfl (pc0 := 214) (pc' := 218) rfl (hb hby at_214) (by decide) (by decide) ?_
      refine XS.istore X156.here hx rfl (hb hby at_218) rfl (l' := #[.val (.int xa), .val (.int xb), .val (.int xc), .val (.int xd), .val (.int xn), .val (.int xs), .val (.int (Int32.ofNat cn)), .val (.ref b4), .val (.ref b19), .val (.ref b33), .val (.int (0 : Int32)), .val (.int (Int32.ofNat mn)), .val (.int (1 : Int32)), .val (.int (1 : Int32)), .val (.int (1 : Int32)), .unset]) rfl ?_
      refine XS.aload X156.here hx rfl (hb hby at_220) rfl rfl ?_
      refine XS.iconst X156.here hx rfl (hb hby at_222) ?_
      exact k)
    have R162 : Rep Z n0 T156.heap ((b436, Ar .int (nl (pSt [y0, y1, y2, y3] cn))) :: (b4, Ar .int (nl [y0, y1, y2, y3])) :: (b33, Obj "com/example/witgen/witgen/regex/Partition" [("elements", "[I", (.ref b136)), ("location", "[I", (.ref b236)), ("blockOf", "[I", (.ref b336)), ("start", "[I", (.ref b436)), ("end", "[I", (.ref b536)), ("marked", "[I", (.ref b636)), ("touched", "[I", (.ref b736)), ("blocks", "I", (.int (Int32.ofNat cn))), ("touchedCount", "I", (.int (Int32.ofNat 0)))]) :: (b236, Ar .int (nl (pS4 [y0, y1, y2, y3] cn).2.1)) :: (b336, Ar .int (nl [y0, y1, y2, y3])) :: (b136, Ar .int (nl (pS4 [y0, y1, y2, y3] cn).1)) :: (b536, Ar .int (nl (pEn [y0, y1, y2, y3] cn))) :: (b636, Ar .int (nl (List.replicate (max [y0, y1, y2, y3].length cn) 0))) :: (b736, Ar .int (nl (List.replicate (max [y0, y1, y2, y3].length cn) 0))) :: (b19, Ar .int (nl [y0, y1, y2, y3])) :: []) := R156.front 4 rfl rfl
    have R163 : Rep Z n0 T156.heap ((b336, Ar .int (nl [y0, y1, y2, y3])) :: (b436, Ar .int (nl (pSt [y0, y1, y2, y3] cn))) :: (b4, Ar .int (nl [y0, y1, y2, y3])) :: (b33, Obj "com/example/witgen/witgen/regex/Partition" [("elements", "[I", (.ref b136)), ("location", "[I", (.ref b236)), ("blockOf", "[I", (.ref b336)), ("start", "[I", (.ref b436)), ("end", "[I", (.ref b536)), ("marked", "[I", (.ref b636)), ("touched", "[I", (.ref b736)), ("blocks", "I", (.int (Int32.ofNat cn))), ("touchedCount", "I", (.int (Int32.ofNat 0)))]) :: (b236, Ar .int (nl (pS4 [y0, y1, y2, y3] cn).2.1)) :: (b136, Ar .int (nl (pS4 [y0, y1, y2, y3] cn).1)) :: (b536, Ar .int (nl (pEn [y0, y1, y2, y3] cn))) :: (b636, Ar .int (nl (List.replicate (max [y0, y1, y2, y3].length cn) 0))) :: (b736, Ar .int (nl (List.replicate (max [y0, y1, y2, y3].length cn) 0))) :: (b19, Ar .int (nl [y0, y1, y2, y3])) :: []) := R162.front 4 rfl rfl
    have R164 : Rep Z n0 T156.heap ((b236, Ar .int (nl (pS4 [y0, y1, y2, y3] cn).2.1)) :: (b336, Ar .int (nl [y0, y1, y2, y3])) :: (b436, Ar .int (nl (pSt [y0, y1, y2, y3] cn))) :: (b4, Ar .int (nl [y0, y1, y2, y3])) :: (b33, Obj "com/example/witgen/witgen/regex/Partition" [("elements", "[I", (.ref b136)), ("location", "[I", (.ref b236)), ("blockOf", "[I", (.ref b336)), ("start", "[I", (.ref b436)), ("end", "[I", (.ref b536)), ("marked", "[I", (.ref b636)), ("touched", "[I", (.ref b736)), ("blocks", "I", (.int (Int32.ofNat cn))), ("touchedCount", "I", (.int (Int32.ofNat 0)))]) :: (b136, Ar .int (nl (pS4 [y0, y1, y2, y3] cn).1)) :: (b536, Ar .int (nl (pEn [y0, y1, y2, y3] cn))) :: (b636, Ar .int (nl (List.replicate (max [y0, y1, y2, y3].length cn) 0))) :: (b736, Ar .int (nl (List.replicate (max [y0, y1, y2, y3].length cn) 0))) :: (b19, Ar .int (nl [y0, y1, y2, y3])) :: []) := R163.front 4 rfl rfl
    have R165 : Rep Z n0 T156.heap ((b33, Obj "com/example/witgen/witgen/regex/Partition" [("elements", "[I", (.ref b136)), ("location", "[I", (.ref b236)), ("blockOf", "[I", (.ref b336)), ("start", "[I", (.ref b436)), ("end", "[I", (.ref b536)), ("marked", "[I", (.ref b636)), ("touched", "[I", (.ref b736)), ("blocks", "I", (.int (Int32.ofNat cn))), ("touchedCount", "I", (.int (Int32.ofNat 0)))]) :: (b236, Ar .int (nl (pS4 [y0, y1, y2, y3] cn).2.1)) :: (b336, Ar .int (nl [y0, y1, y2, y3])) :: (b436, Ar .int (nl (pSt [y0, y1, y2, y3] cn))) :: (b4, Ar .int (nl [y0, y1, y2, y3])) :: (b136, Ar .int (nl (pS4 [y0, y1, y2, y3] cn).1)) :: (b536, Ar .int (nl (pEn [y0, y1, y2, y3] cn))) :: (b636, Ar .int (nl (List.replicate (max [y0, y1, y2, y3].length cn) 0))) :: (b736, Ar .int (nl (List.replicate (max [y0, y1, y2, y3].length cn) 0))) :: (b19, Ar .int (nl [y0, y1, y2, y3])) :: []) := R164.front 4 rfl rfl
    obtain ⟨cq161, kq161, q161a, q161b, q161c⟩ := isOf hZ rfl (R165.exa (i := 0) rfl)
    obtain ⟨_, _, ⟨T161, L161, k161, n161⟩, -, X161, ⟨Lc161, hQ161, l161, y161, z161⟩, st161⟩ := X156.virtualBack hx (y := (⟨"com/example/witgen/witgen/regex/Partition", "isFirstOfBlock", "(I)Z"⟩ : MethodName)) (z := (⟨"com/example/witgen/witgen/regex/Partition", "isFirstOfBlock", "(I)Z"⟩ : MethodName)) hown (mvT hZ (hw _ (List.mem_of_getElem? (i := 58) rfl))) (mvT hZ (hw _ (List.mem_of_getElem? (i := 59) rfl))) (notFace_of_selects (args := #[]) (mvT hZ (hw _ (List.mem_of_getElem? (i := 61) rfl)))) (mvT hZ (hw _ (List.mem_of_getElem? (i := 61) rfl))) (mvT hZ (hw _ (List.mem_of_getElem? (i := 60) rfl))) (by decide) (backOf (W := 0) (rm7 l Z a0 hw [] b33 3 _ _ _ _ _ _ _ _ _ _ _ _ T156.heap n0 _ R165 (Nat.lt_of_lt_of_eq (show (3 : Nat) < 4 by decide) (hp.2.1).symm) (by decide) (show (3 : Nat) < 4 by decide) (by decide) (Nat.lt_of_lt_of_le (own_el (i := 3) rfl ha0 ha1 ha2 ha3 (by decide)) hp.2.2.1) (Nat.lt_of_lt_of_le (own_el (i := 3) rfl ha0 ha1 ha2 ha3 (by decide)) (by omega))) hZ (hw _ (List.mem_of_getElem? (i := 62) rfl)) (hw _ (List.mem_of_getElem? (i := 4) rfl)) (by decide) (by decide)) q161a q161c (g := (mkF m 223 #[.val (.int xa), .val (.int xb), .val (.int xc), .val (.int xd), .val (.int xn), .val (.int xs), .val (.int (Int32.ofNat cn)), .val (.ref b4), .val (.ref b19), .val (.ref b33), .val (.int (0 : Int32)), .val (.int (Int32.ofNat mn)), .val (.int (1 : Int32)), .val (.int (1 : Int32)), .val (.int (1 : Int32)), .unset] [(.int (3 : Int32)), (.ref b33)])) rfl (by rw [hml]; rfl) (Steps.refl _) (argsL := [(.int (3 : Int32))]) (rest := []) (lenOf pd__28I_29Z rfl) rfl (by show 2 * 0 + _ ≤ _; exact Nat.le_of_eq rfl) (hb hby at_223) (fun _ _ => ⟨rfl, rfl, (by decide : 11 + 0 ≤ _), (by decide : 69 + 0 ≤ _)⟩)
    dsimp only [Pt.U, Pt.locs, Pt.cells, Pt.slots] at X161 l161 y161 z161 st161 hQ161
    subst y161 z161
    obtain ⟨rfl, N161q, R161⟩ := hQ161
    have N161 : Fr n0 L161 := by rw [l161]; exact Fr.app N156 N161q
    replace R161 : Rep Z n0 T161.heap ((b33, Obj "com/example/witgen/witgen/regex/Partition" [("elements", "[I", (.ref b136)), ("location", "[I", (.ref b236)), ("blockOf", "[I", (.ref b336)), ("start", "[I", (.ref b436)), ("end", "[I", (.ref b536)), ("marked", "[I", (.ref b636)), ("touched", "[I", (.ref b736)), ("blocks", "I", (.int (Int32.ofNat cn))), ("touchedCount", "I", (.int (Int32.ofNat 0)))]) :: (b236, Ar .int (nl (pS4 [y0, y1, y2, y3] cn).2.1)) :: (b336, Ar .int (nl [y0, y1, y2, y3])) :: (b436, Ar .int (nl (pSt [y0, y1, y2, y3] cn))) :: (b4, Ar .int (nl [y0, y1, y2, y3])) :: (b136, Ar .int (nl (pS4 [y0, y1, y2, y3] cn).1)) :: (b536, Ar .int (nl (pEn [y0, y1, y2, y3] cn))) :: (b636, Ar .int (nl (List.replicate (max [y0, y1, y2, y3].length cn) 0))) :: (b736, Ar .int (nl (List.replicate (max [y0, y1, y2, y3].length cn) 0))) :: (b19, Ar .int (nl [y0, y1, y2, y3])) :: []) := R161
    have pre166 : ∀ t, Steps p.tables e below (T161.setTop (mkF m 226 #[.val (.int xa), .val (.int xb), .val (.int xc), .val (.int xd), .val (.int xn), .val (.int xs), .val (.int (Int32.ofNat cn)), .val (.ref b4), .val (.ref b19), .val (.ref b33), .val (.int (0 : Int32)), .val (.int (Int32.ofNat mn)), .val (.int (1 : Int32)), .val (.int (1 : Int32)), .val (.int (1 : Int32)), .unset] [(.int (F7 3 (pS4 [y0, y1, y2, y3] cn).2.1 [y0, y1, y2, y3] (pSt [y0, y1, y2, y3] cn)))])) t → Steps p.tables e below (s₁.setTop (entryFrame m #[(.int xa), (.int xb), (.int xc), (.int xd), (.int xn), (.int xs)] maxLocals)) t := fun t k => pre160 t (st161.trans k)
    have pre167 : ∀ t, Steps p.tables e below (T161.setTop (mkF m 233 #[.val (.int xa), .val (.int xb), .val (.int xc), .val (.int xd), .val (.int xn), .val (.int xs), .val (.int (Int32.ofNat cn)), .val (.ref b4), .val (.ref b19), .val (.ref b33), .val (.int (0 : Int32)), .val (.int (Int32.ofNat mn)), .val (.int (1 : Int32)), .val (.int (1 : Int32)), .val (.int (1 : Int32)), .unset] [(.int (0 : Int32)), (.int (Int32.ofNat mn)), (.int (3 : Int32)), (.ref b4), (.int (F7 3 (pS4 [y0, y1, y2, y3] cn).2.1 [y0, y1, y2, y3] (pSt [y0, y1, y2, y3] cn)))])) t → Steps p.tables e below (s₁.setTop (entryFrame m #[(.int xa), (.int xb), (.int xc), (.int xd), (.int xn), (.int xs)] maxLocals)) t := fun t k => pre166 t (by
      show Steps p.tables e below (T161.setTop (mkF m 226 #[.val (.int xa), .val (.int xb), .val (.int xc), .val (.int xd), .val (.int xn), .val (.int xs), .val (.int (Int32.ofNat cn)), .val (.ref b4), .val (.ref b19), .val (.ref b33), .val (.int (0 : Int32)), .val (.int (Int32.ofNat mn)), .val (.int (1 : Int32)), .val (.int (1 : Int32)), .val (.int (1 : Int32)), .unset] [(.int (F7 3 (pS4 [y0, y1, y2, y3] cn).2.1 [y0, y1, y2, y3] (pSt [y0, y1, y2, y3] cn)))])) _
      refine XS.aload X161.here hx rfl (hb hby at_226) rfl rfl ?_
      refine XS.iconst X161.here hx rfl (hb hby at_228) ?_
      refine XS.iload X161.here hx rfl (hb hby at_229) rfl ?_
      refine XS.iload X161.here hx rfl (hb hby at_231) rfl ?_
      exact k)
    have R169 : Rep Z n0 T161.heap ((b4, Ar .int (nl [y0, y1, y2, y3])) :: (b33, Obj "com/example/witgen/witgen/regex/Partition" [("elements", "[I", (.ref b136)), ("location", "[I", (.ref b236)), ("blockOf", "[I", (.ref b336)), ("start", "[I", (.ref b436)), ("end", "[I", (.ref b536)), ("marked", "[I", (.ref b636)), ("touched", "[I", (.ref b736)), ("blocks", "I", (.int (Int32.ofNat cn))), ("touchedCount", "I", (.int (Int32.ofNat 0)))]) :: (b236, Ar .int (nl (pS4 [y0, y1, y2, y3] cn).2.1)) :: (b336, Ar .int (nl [y0, y1, y2, y3])) :: (b436, Ar .int (nl (pSt [y0, y1, y2, y3] cn))) :: (b136, Ar .int (nl (pS4 [y0, y1, y2, y3] cn).1)) :: (b536, Ar .int (nl (pEn [y0, y1, y2, y3] cn))) :: (b636, Ar .int (nl (List.replicate (max [y0, y1, y2, y3].length cn) 0))) :: (b736, Ar .int (nl (List.replicate (max [y0, y1, y2, y3].length cn) 0))) :: (b19, Ar .int (nl [y0, y1, y2, y3])) :: []) := R161.front 4 rfl rfl
    obtain ⟨_, _, ⟨T168, L168, k168, n168⟩, -, X168, ⟨Lc168, hQ168, l168, y168, z168⟩, st168⟩ := Jvm.LawKit.callS X161 hx (y := (⟨"com/example/witgen/witgen/regex/PartitionIsFirstOfBlockPinLaw", "firstRef", "([IIIZ)Z"⟩ : MethodName)) hown (mvT hZ (hw _ (List.mem_of_getElem? (i := 63) rfl))) (mvT hZ (hw _ (List.mem_of_getElem? (i := 64) rfl))) (mvT hZ (hw _ (List.mem_of_getElem? (i := 65) rfl))) (mvT hZ (hw _ (List.mem_of_getElem? (i := 66) rfl))) (by decide) (backOf (W := 1) (rm8 l Z a0 hw [] b4 3 mn (0 : Int32) _ T161.heap n0 _ R169 (show (3 : Nat) < 4 by decide) (by decide) (show (0 : Nat) < 4 by decide) (by decide) (show (1 : Nat) < 4 by decide) (by decide) (show (2 : Nat) < 4 by decide) (by decide) (by simpa using hm4) (by omega)) hZ (hw _ (List.mem_of_getElem? (i := 66) rfl)) (hw _ (List.mem_of_getElem? (i := 65) rfl)) (by decide) (by decide)) (g := (mkF m 233 #[.val (.int xa), .val (.int xb), .val (.int xc), .val (.int xd), .val (.int xn), .val (.int xs), .val (.int (Int32.ofNat cn)), .val (.ref b4), .val (.ref b19), .val (.ref b33), .val (.int (0 : Int32)), .val (.int (Int32.ofNat mn)), .val (.int (1 : Int32)), .val (.int (1 : Int32)), .val (.int (1 : Int32)), .unset] [(.int (0 : Int32)), (.int (Int32.ofNat mn)), (.int (3 : Int32)), (.ref b4), (.int (F7 3 (pS4 [y0, y1, y2, y3] cn).2.1 [y0, y1, y2, y3] (pSt [y0, y1, y2, y3] cn)))])) rfl (by rw [hml]; rfl) (argsL := [(.ref b4), (.int (3 : Int32)), (.int (Int32.ofNat mn)), (.int (0 : Int32))]) (rest := [(.int (F7 3 (pS4 [y0, y1, y2, y3] cn).2.1 [y0, y1, y2, y3] (pSt [y0, y1, y2, y3] cn)))]) (lenOf pd__28_5bIIIZ_29Z rfl) rfl (by show 2 * 0 + _ ≤ _; exact Nat.le_of_eq rfl) (hb hby at_233) (fun _ _ => ⟨rfl, rfl, (by decide : 11 + 0 ≤ _), (by decide : 69 + 0 ≤ _)⟩)
    dsimp only [Pt.U, Pt.locs, Pt.cells, Pt.slots] at X168 l168 y168 z168 st168 hQ168
    subst y168 z168
    obtain ⟨rfl, N168q, R168⟩ := hQ168
    have N168 : Fr n0 L168 := by rw [l168]; exact Fr.app N161 N168q
    replace R168 : Rep Z n0 T168.heap ((b4, Ar .int (nl [y0, y1, y2, y3])) :: (b33, Obj "com/example/witgen/witgen/regex/Partition" [("elements", "[I", (.ref b136)), ("location", "[I", (.ref b236)), ("blockOf", "[I", (.ref b336)), ("start", "[I", (.ref b436)), ("end", "[I", (.ref b536)), ("marked", "[I", (.ref b636)), ("touched", "[I", (.ref b736)), ("blocks", "I", (.int (Int32.ofNat cn))), ("touchedCount", "I", (.int (Int32.ofNat 0)))]) :: (b236, Ar .int (nl (pS4 [y0, y1, y2, y3] cn).2.1)) :: (b336, Ar .int (nl [y0, y1, y2, y3])) :: (b436, Ar .int (nl (pSt [y0, y1, y2, y3] cn))) :: (b136, Ar .int (nl (pS4 [y0, y1, y2, y3] cn).1)) :: (b536, Ar .int (nl (pEn [y0, y1, y2, y3] cn))) :: (b636, Ar .int (nl (List.replicate (max [y0, y1, y2, y3].length cn) 0))) :: (b736, Ar .int (nl (List.replicate (max [y0, y1, y2, y3].length cn) 0))) :: (b19, Ar .int (nl [y0, y1, y2, y3])) :: []) := R168
    have pre170 : ∀ t, Steps p.tables e below (T168.setTop (mkF m 236 #[.val (.int xa), .val (.int xb), .val (.int xc), .val (.int xd), .val (.int xn), .val (.int xs), .val (.int (Int32.ofNat cn)), .val (.ref b4), .val (.ref b19), .val (.ref b33), .val (.int (0 : Int32)), .val (.int (Int32.ofNat mn)), .val (.int (1 : Int32)), .val (.int (1 : Int32)), .val (.int (1 : Int32)), .unset] [(.int (F8 3 mn (0 : Int32) [y0, y1, y2, y3])), (.int (F7 3 (pS4 [y0, y1, y2, y3] cn).2.1 [y0, y1, y2, y3] (pSt [y0, y1, y2, y3] cn)))])) t → Steps p.tables e below (s₁.setTop (entryFrame m #[(.int xa), (.int xb), (.int xc), (.int xd), (.int xn), (.int xs)] maxLocals)) t := fun t k => pre167 t (st168 t k)
    have hb171 : (F7 3 (pS4 [y0, y1, y2, y3] cn).2.1 [y0, y1, y2, y3] (pSt [y0, y1, y2, y3] cn)) = (F8 3 mn (0 : Int32) [y0, y1, y2, y3]) := hp.2.2.2 3 (by decide) mn hm4
    have pre173 : ∀ t, Steps p.tables e below (T168.setTop (mkF m 248 #[.val (.int xa), .val (.int xb), .val (.int xc), .val (.int xd), .val (.int xn), .val (.int xs), .val (.int (Int32.ofNat cn)), .val (.ref b4), .val (.ref b19), .val (.ref b33), .val (.int (0 : Int32)), .val (.int (Int32.ofNat mn)), .val (.int (1 : Int32)), .val (.int (1 : Int32)), .val (.int (1 : Int32)), .val (.int (1 : Int32))] [(.int (1 : Int32))])) t → Steps p.tables e below (s₁.setTop (entryFrame m #[(.int xa), (.int xb), (.int xc), (.int xd), (.int xn), (.int xs)] maxLocals)) t := fun t k => pre170 t (by
      show Steps p.tables e below (T168.setTop (mkF m 236 #[.val (.int xa), .val (.int xb), .val (.int xc), .val (.int xd), .val (.int xn), .val (.int xs), .val (.int (Int32.ofNat cn)), .val (.ref b4), .val (.ref b19), .val (.ref b33), .val (.int (0 : Int32)), .val (.int (Int32.ofNat mn)), .val (.int (1 : Int32)), .val (.int (1 : Int32)), .val (.int (1 : Int32)), .unset] [(.int (F8 3 mn (0 : Int32) [y0, y1, y2, y3])), (.int (F7 3 (pS4 [y0, y1, y2, y3] cn).2.1 [y0, y1, y2, y3] (pSt [y0, y1, y2, y3] cn)))])) _
      refine XS.icmpNo X168.here hx rfl (hb hby at_236) rfl (teq hb171).2 ?_
      refine XS.iconst X168.here hx rfl (hb hby at_239) ?_
      refine XS.goto X168.here hx rfl (pc0 := 240) (pc' := 244) rfl (hb hby at_240) (by decide) (by decide) ?_
      refine XS.istore X168.here hx rfl (hb hby at_244) rfl (l' := #[.val (.int xa), .val (.int xb), .val (.int xc), .val (.int xd), .val (.int xn), .val (.int xs), .val (.int (Int32.ofNat cn)), .val (.ref b4), .val (.ref b19), .val (.ref b33), .val (.int (0 : Int32)), .val (.int (Int32.ofNat mn)), .val (.int (1 : Int32)), .val (.int (1 : Int32)), .val (.int (1 : Int32)), .val (.int (1 : Int32))]) rfl ?_
      refine XS.iload X168.here hx rfl (hb hby at_246) rfl ?_
      exact k)
    have hb172 : ¬ ((1 : Int32) = (0 : Int32)) := (by decide)
    have pre175 : ∀ t, Steps p.tables e below (T168.setTop (mkF m 253 #[.val (.int xa), .val (.int xb), .val (.int xc), .val (.int xd), .val (.int xn), .val (.int xs), .val (.int (Int32.ofNat cn)), .val (.ref b4), .val (.ref b19), .val (.ref b33), .val (.int (0 : Int32)), .val (.int (Int32.ofNat mn)), .val (.int (1 : Int32)), .val (.int (1 : Int32)), .val (.int (1 : Int32)), .val (.int (1 : Int32))] [(.int (1 : Int32))])) t → Steps p.tables e below (s₁.setTop (entryFrame m #[(.int xa), (.int xb), (.int xc), (.int xd), (.int xn), (.int xs)] maxLocals)) t := fun t k => pre173 t (by
      show Steps p.tables e below (T168.setTop (mkF m 248 #[.val (.int xa), .val (.int xb), .val (.int xc), .val (.int xd), .val (.int xn), .val (.int xs), .val (.int (Int32.ofNat cn)), .val (.ref b4), .val (.ref b19), .val (.ref b33), .val (.int (0 : Int32)), .val (.int (Int32.ofNat mn)), .val (.int (1 : Int32)), .val (.int (1 : Int32)), .val (.int (1 : Int32)), .val (.int (1 : Int32))] [(.int (1 : Int32))])) _
      refine XS.ifNo X168.here hx rfl (hb hby at_248) rfl ((if0 _ _).trans (feq hb172).1) ?_
      refine XS.iload X168.here hx rfl (hb hby at_251) rfl ?_
      exact k)
    have hb174 : ¬ ((1 : Int32) = (0 : Int32)) := (by decide)
    have pre177 : ∀ t, Steps p.tables e below (T168.setTop (mkF m 258 #[.val (.int xa), .val (.int xb), .val (.int xc), .val (.int xd), .val (.int xn), .val (.int xs), .val (.int (Int32.ofNat cn)), .val (.ref b4), .val (.ref b19), .val (.ref b33), .val (.int (0 : Int32)), .val (.int (Int32.ofNat mn)), .val (.int (1 : Int32)), .val (.int (1 : Int32)), .val (.int (1 : Int32)), .val (.int (1 : Int32))] [(.int (1 : Int32))])) t → Steps p.tables e below (s₁.setTop (entryFrame m #[(.int xa), (.int xb), (.int xc), (.int xd), (.int xn), (.int xs)] maxLocals)) t := fun t k => pre175 t (by
      show Steps p.tables e below (T168.setTop (mkF m 253 #[.val (.int xa), .val (.int xb), .val (.int xc), .val (.int xd), .val (.int xn), .val (.int xs), .val (.int (Int32.ofNat cn)), .val (.ref b4), .val (.ref b19), .val (.ref b33), .val (.int (0 : Int32)), .val (.int (Int32.ofNat mn)), .val (.int (1 : Int32)), .val (.int (1 : Int32)), .val (.int (1 : Int32)), .val (.int (1 : Int32))] [(.int (1 : Int32))])) _
      refine XS.ifNo X168.here hx rfl (hb hby at_253) rfl ((if0 _ _).trans (feq hb174).1) ?_
      refine XS.iload X168.here hx rfl (hb hby at_256) rfl ?_
      exact k)
    have hb176 : ¬ ((1 : Int32) = (0 : Int32)) := (by decide)
    have pre179 : ∀ t, Steps p.tables e below (T168.setTop (mkF m 263 #[.val (.int xa), .val (.int xb), .val (.int xc), .val (.int xd), .val (.int xn), .val (.int xs), .val (.int (Int32.ofNat cn)), .val (.ref b4), .val (.ref b19), .val (.ref b33), .val (.int (0 : Int32)), .val (.int (Int32.ofNat mn)), .val (.int (1 : Int32)), .val (.int (1 : Int32)), .val (.int (1 : Int32)), .val (.int (1 : Int32))] [(.int (1 : Int32))])) t → Steps p.tables e below (s₁.setTop (entryFrame m #[(.int xa), (.int xb), (.int xc), (.int xd), (.int xn), (.int xs)] maxLocals)) t := fun t k => pre177 t (by
      show Steps p.tables e below (T168.setTop (mkF m 258 #[.val (.int xa), .val (.int xb), .val (.int xc), .val (.int xd), .val (.int xn), .val (.int xs), .val (.int (Int32.ofNat cn)), .val (.ref b4), .val (.ref b19), .val (.ref b33), .val (.int (0 : Int32)), .val (.int (Int32.ofNat mn)), .val (.int (1 : Int32)), .val (.int (1 : Int32)), .val (.int (1 : Int32)), .val (.int (1 : Int32))] [(.int (1 : Int32))])) _
      refine XS.ifNo X168.here hx rfl (hb hby at_258) rfl ((if0 _ _).trans (feq hb176).1) ?_
      refine XS.iload X168.here hx rfl (hb hby at_261) rfl ?_
      exact k)
    have hb178 : ¬ ((1 : Int32) = (0 : Int32)) := (by decide)
    have pre180 : ∀ t, Steps p.tables e below (T168.setTop (mkF m 271 #[.val (.int xa), .val (.int xb), .val (.int xc), .val (.int xd), .val (.int xn), .val (.int xs), .val (.int (Int32.ofNat cn)), .val (.ref b4), .val (.ref b19), .val (.ref b33), .val (.int (0 : Int32)), .val (.int (Int32.ofNat mn)), .val (.int (1 : Int32)), .val (.int (1 : Int32)), .val (.int (1 : Int32)), .val (.int (1 : Int32))] [(.int (1 : Int32))])) t → Steps p.tables e below (s₁.setTop (entryFrame m #[(.int xa), (.int xb), (.int xc), (.int xd), (.int xn), (.int xs)] maxLocals)) t := fun t k => pre179 t (by
      show Steps p.tables e below (T168.setTop (mkF m 263 #[.val (.int xa), .val (.int xb), .val (.int xc), .val (.int xd), .val (.int xn), .val (.int xs), .val (.int (Int32.ofNat cn)), .val (.ref b4), .val (.ref b19), .val (.ref b33), .val (.int (0 : Int32)), .val (.int (Int32.ofNat mn)), .val (.int (1 : Int32)), .val (.int (1 : Int32)), .val (.int (1 : Int32)), .val (.int (1 : Int32))] [(.int (1 : Int32))])) _
      refine XS.ifNo X168.here hx rfl (hb hby at_263) rfl ((if0 _ _).trans (feq hb178).1) ?_
      refine XS.iconst X168.here hx rfl (hb hby at_266) ?_
      refine XS.goto X168.here hx rfl (pc0 := 267) (pc' := 271) rfl (hb hby at_267) (by decide) (by decide) ?_
      exact k)
    obtain ⟨fs, hr, hrun, hended, hW, hsame⟩ := X168.leave (v := some (.int (nar .boolean (1 : Int32)))) (fun h => by rw [Bd.returns] at h; cases h)
    refine ⟨_, _, pre180 _ ?_, hrun, hended, _, _, rfl, ?_, ⟨_, rfl⟩, hW, hsame.mono (by decide) (by decide)⟩
    · show Steps p.tables e below (T168.setTop (mkF m 271 #[.val (.int xa), .val (.int xb), .val (.int xc), .val (.int xd), .val (.int xn), .val (.int xs), .val (.int (Int32.ofNat cn)), .val (.ref b4), .val (.ref b19), .val (.ref b33), .val (.int (0 : Int32)), .val (.int (Int32.ofNat mn)), .val (.int (1 : Int32)), .val (.int (1 : Int32)), .val (.int (1 : Int32)), .val (.int (1 : Int32))] [(.int (1 : Int32))])) _
      exact retN X168 hx (t := .boolean) Bd.returns (by simp) (hb hby at_271) hr
    · show Q0 Z xa xb xc xd xn xs n0 [] _ T168.heap _
      have R181 : Rep Z n0 T168.heap ((b33, Obj "com/example/witgen/witgen/regex/Partition" [("elements", "[I", (.ref b136)), ("location", "[I", (.ref b236)), ("blockOf", "[I", (.ref b336)), ("start", "[I", (.ref b436)), ("end", "[I", (.ref b536)), ("marked", "[I", (.ref b636)), ("touched", "[I", (.ref b736)), ("blocks", "I", (.int (Int32.ofNat cn))), ("touchedCount", "I", (.int (Int32.ofNat 0)))]) :: (b236, Ar .int (nl (pS4 [y0, y1, y2, y3] cn).2.1)) :: (b336, Ar .int (nl [y0, y1, y2, y3])) :: (b436, Ar .int (nl (pSt [y0, y1, y2, y3] cn))) :: (b136, Ar .int (nl (pS4 [y0, y1, y2, y3] cn).1)) :: (b536, Ar .int (nl (pEn [y0, y1, y2, y3] cn))) :: (b636, Ar .int (nl (List.replicate (max [y0, y1, y2, y3].length cn) 0))) :: (b736, Ar .int (nl (List.replicate (max [y0, y1, y2, y3].length cn) 0))) :: (b19, Ar .int (nl [y0, y1, y2, y3])) :: []) := (R168.front 0 rfl rfl : Rep Z n0 T168.heap ((b4, Ar .int (nl [y0, y1, y2, y3])) :: (b33, Obj "com/example/witgen/witgen/regex/Partition" [("elements", "[I", (.ref b136)), ("location", "[I", (.ref b236)), ("blockOf", "[I", (.ref b336)), ("start", "[I", (.ref b436)), ("end", "[I", (.ref b536)), ("marked", "[I", (.ref b636)), ("touched", "[I", (.ref b736)), ("blocks", "I", (.int (Int32.ofNat cn))), ("touchedCount", "I", (.int (Int32.ofNat 0)))]) :: (b236, Ar .int (nl (pS4 [y0, y1, y2, y3] cn).2.1)) :: (b336, Ar .int (nl [y0, y1, y2, y3])) :: (b436, Ar .int (nl (pSt [y0, y1, y2, y3] cn))) :: (b136, Ar .int (nl (pS4 [y0, y1, y2, y3] cn).1)) :: (b536, Ar .int (nl (pEn [y0, y1, y2, y3] cn))) :: (b636, Ar .int (nl (List.replicate (max [y0, y1, y2, y3].length cn) 0))) :: (b736, Ar .int (nl (List.replicate (max [y0, y1, y2, y3].length cn) 0))) :: (b19, Ar .int (nl [y0, y1, y2, y3])) :: [])).tail
      have R182 : Rep Z n0 T168.heap ((b236, Ar .int (nl (pS4 [y0, y1, y2, y3] cn).2.1)) :: (b336, Ar .int (nl [y0, y1, y2, y3])) :: (b436, Ar .int (nl (pSt [y0, y1, y2, y3] cn))) :: (b136, Ar .int (nl (pS4 [y0, y1, y2, y3] cn).1)) :: (b536, Ar .int (nl (pEn [y0, y1, y2, y3] cn))) :: (b636, Ar .int (nl (List.replicate (max [y0, y1, y2, y3].length cn) 0))) :: (b736, Ar .int (nl (List.replicate (max [y0, y1, y2, y3].length cn) 0))) :: (b19, Ar .int (nl [y0, y1, y2, y3])) :: []) := (R181.front 0 rfl rfl : Rep Z n0 T168.heap ((b33, Obj "com/example/witgen/witgen/regex/Partition" [("elements", "[I", (.ref b136)), ("location", "[I", (.ref b236)), ("blockOf", "[I", (.ref b336)), ("start", "[I", (.ref b436)), ("end", "[I", (.ref b536)), ("marked", "[I", (.ref b636)), ("touched", "[I", (.ref b736)), ("blocks", "I", (.int (Int32.ofNat cn))), ("touchedCount", "I", (.int (Int32.ofNat 0)))]) :: (b236, Ar .int (nl (pS4 [y0, y1, y2, y3] cn).2.1)) :: (b336, Ar .int (nl [y0, y1, y2, y3])) :: (b436, Ar .int (nl (pSt [y0, y1, y2, y3] cn))) :: (b136, Ar .int (nl (pS4 [y0, y1, y2, y3] cn).1)) :: (b536, Ar .int (nl (pEn [y0, y1, y2, y3] cn))) :: (b636, Ar .int (nl (List.replicate (max [y0, y1, y2, y3].length cn) 0))) :: (b736, Ar .int (nl (List.replicate (max [y0, y1, y2, y3].length cn) 0))) :: (b19, Ar .int (nl [y0, y1, y2, y3])) :: [])).tail
      have R183 : Rep Z n0 T168.heap ((b336, Ar .int (nl [y0, y1, y2, y3])) :: (b436, Ar .int (nl (pSt [y0, y1, y2, y3] cn))) :: (b136, Ar .int (nl (pS4 [y0, y1, y2, y3] cn).1)) :: (b536, Ar .int (nl (pEn [y0, y1, y2, y3] cn))) :: (b636, Ar .int (nl (List.replicate (max [y0, y1, y2, y3].length cn) 0))) :: (b736, Ar .int (nl (List.replicate (max [y0, y1, y2, y3].length cn) 0))) :: (b19, Ar .int (nl [y0, y1, y2, y3])) :: []) := (R182.front 0 rfl rfl : Rep Z n0 T168.heap ((b236, Ar .int (nl (pS4 [y0, y1, y2, y3] cn).2.1)) :: (b336, Ar .int (nl [y0, y1, y2, y3])) :: (b436, Ar .int (nl (pSt [y0, y1, y2, y3] cn))) :: (b136, Ar .int (nl (pS4 [y0, y1, y2, y3] cn).1)) :: (b536, Ar .int (nl (pEn [y0, y1, y2, y3] cn))) :: (b636, Ar .int (nl (List.replicate (max [y0, y1, y2, y3].length cn) 0))) :: (b736, Ar .int (nl (List.replicate (max [y0, y1, y2, y3].length cn) 0))) :: (b19, Ar .int (nl [y0, y1, y2, y3])) :: [])).tail
      have R184 : Rep Z n0 T168.heap ((b436, Ar .int (nl (pSt [y0, y1, y2, y3] cn))) :: (b136, Ar .int (nl (pS4 [y0, y1, y2, y3] cn).1)) :: (b536, Ar .int (nl (pEn [y0, y1, y2, y3] cn))) :: (b636, Ar .int (nl (List.replicate (max [y0, y1, y2, y3].length cn) 0))) :: (b736, Ar .int (nl (List.replicate (max [y0, y1, y2, y3].length cn) 0))) :: (b19, Ar .int (nl [y0, y1, y2, y3])) :: []) := (R183.front 0 rfl rfl : Rep Z n0 T168.heap ((b336, Ar .int (nl [y0, y1, y2, y3])) :: (b436, Ar .int (nl (pSt [y0, y1, y2, y3] cn))) :: (b136, Ar .int (nl (pS4 [y0, y1, y2, y3] cn).1)) :: (b536, Ar .int (nl (pEn [y0, y1, y2, y3] cn))) :: (b636, Ar .int (nl (List.replicate (max [y0, y1, y2, y3].length cn) 0))) :: (b736, Ar .int (nl (List.replicate (max [y0, y1, y2, y3].length cn) 0))) :: (b19, Ar .int (nl [y0, y1, y2, y3])) :: [])).tail
      have R185 : Rep Z n0 T168.heap ((b136, Ar .int (nl (pS4 [y0, y1, y2, y3] cn).1)) :: (b536, Ar .int (nl (pEn [y0, y1, y2, y3] cn))) :: (b636, Ar .int (nl (List.replicate (max [y0, y1, y2, y3].length cn) 0))) :: (b736, Ar .int (nl (List.replicate (max [y0, y1, y2, y3].length cn) 0))) :: (b19, Ar .int (nl [y0, y1, y2, y3])) :: []) := (R184.front 0 rfl rfl : Rep Z n0 T168.heap ((b436, Ar .int (nl (pSt [y0, y1, y2, y3] cn))) :: (b136, Ar .int (nl (pS4 [y0, y1, y2, y3] cn).1)) :: (b536, Ar .int (nl (pEn [y0, y1, y2, y3] cn))) :: (b636, Ar .int (nl (List.replicate (max [y0, y1, y2, y3].length cn) 0))) :: (b736, Ar .int (nl (List.replicate (max [y0, y1, y2, y3].length cn) 0))) :: (b19, Ar .int (nl [y0, y1, y2, y3])) :: [])).tail
      have R186 : Rep Z n0 T168.heap ((b536, Ar .int (nl (pEn [y0, y1, y2, y3] cn))) :: (b636, Ar .int (nl (List.replicate (max [y0, y1, y2, y3].length cn) 0))) :: (b736, Ar .int (nl (List.replicate (max [y0, y1, y2, y3].length cn) 0))) :: (b19, Ar .int (nl [y0, y1, y2, y3])) :: []) := (R185.front 0 rfl rfl : Rep Z n0 T168.heap ((b136, Ar .int (nl (pS4 [y0, y1, y2, y3] cn).1)) :: (b536, Ar .int (nl (pEn [y0, y1, y2, y3] cn))) :: (b636, Ar .int (nl (List.replicate (max [y0, y1, y2, y3].length cn) 0))) :: (b736, Ar .int (nl (List.replicate (max [y0, y1, y2, y3].length cn) 0))) :: (b19, Ar .int (nl [y0, y1, y2, y3])) :: [])).tail
      have R187 : Rep Z n0 T168.heap ((b636, Ar .int (nl (List.replicate (max [y0, y1, y2, y3].length cn) 0))) :: (b736, Ar .int (nl (List.replicate (max [y0, y1, y2, y3].length cn) 0))) :: (b19, Ar .int (nl [y0, y1, y2, y3])) :: []) := (R186.front 0 rfl rfl : Rep Z n0 T168.heap ((b536, Ar .int (nl (pEn [y0, y1, y2, y3] cn))) :: (b636, Ar .int (nl (List.replicate (max [y0, y1, y2, y3].length cn) 0))) :: (b736, Ar .int (nl (List.replicate (max [y0, y1, y2, y3].length cn) 0))) :: (b19, Ar .int (nl [y0, y1, y2, y3])) :: [])).tail
      have R188 : Rep Z n0 T168.heap ((b736, Ar .int (nl (List.replicate (max [y0, y1, y2, y3].length cn) 0))) :: (b19, Ar .int (nl [y0, y1, y2, y3])) :: []) := (R187.front 0 rfl rfl : Rep Z n0 T168.heap ((b636, Ar .int (nl (List.replicate (max [y0, y1, y2, y3].length cn) 0))) :: (b736, Ar .int (nl (List.replicate (max [y0, y1, y2, y3].length cn) 0))) :: (b19, Ar .int (nl [y0, y1, y2, y3])) :: [])).tail
      have R189 : Rep Z n0 T168.heap ((b19, Ar .int (nl [y0, y1, y2, y3])) :: []) := (R188.front 0 rfl rfl : Rep Z n0 T168.heap ((b736, Ar .int (nl (List.replicate (max [y0, y1, y2, y3].length cn) 0))) :: (b19, Ar .int (nl [y0, y1, y2, y3])) :: [])).tail
      have R190 : Rep Z n0 T168.heap ([]) := (R189.front 0 rfl rfl : Rep Z n0 T168.heap ((b19, Ar .int (nl [y0, y1, y2, y3])) :: [])).tail
      exact ⟨(by rfl), N168, R190⟩
set_option maxRecDepth 65536 in
set_option maxHeartbeats 40000000 in
theorem comes_1 {Post : Tables → Env → Array Value → State → Outcome → State → Prop} (hpost : ∀ tb e args s v u, (limb_1_1.after args s (.returned v) u = true ∧ limb_1_2.after args s (.returned v) u = true ∧ True) → FrameEnd s (.returned v) u (Jvm.fieldLocs frame_1_writes args s ++ Jvm.arrayLocs frame_1_arrays args s ++ Jvm.staticLocs frame_1_statics s) 32 256 → Post tb e args s (.returned v) u) :
    ArmFor flags0 classFile x code maxLocals ret World_1 tables_1 room_1 Calls_1 rest_1 Pre_1 Post := by
  intro l hfl _ _ p e ha hc hk s m args below hf hA hF happ hP
  obtain ⟨hcalls, hrest, hpre⟩ := hP
  obtain ⟨-, -, -, hnamed, -, -, -, hat⟩ := (Spec.applies_iff hf).mp happ
  obtain ⟨hg, hn⟩ := and_e (Cond.before_iff.mp (show (Jvm.Cond.and given_1 narrow_1).before args s = true from hpre))
  obtain ⟨hct, hg⟩ := and_e hg
  obtain ⟨hg0, hg⟩ := and_e hg
  obtain ⟨hg1, hg⟩ := and_e hg
  obtain ⟨hg2, hg⟩ := and_e hg
  obtain ⟨hg3, hg⟩ := and_e hg
  obtain ⟨hg4, hg⟩ := and_e hg
  have hg5 := hg
  obtain ⟨w0, w1, w2, w3, w4, w5, rfl⟩ : ∃ w0 w1 w2 w3 w4 w5 : Value, args = #[w0, w1, w2, w3, w4, w5] := by
    have hs : args.size = 6 := by simpa [Cond.value, given_1] using hct
    obtain ⟨L⟩ := args
    match L, hs with
    | [w0, w1, w2, w3, w4, w5], _ => exact ⟨w0, w1, w2, w3, w4, w5, rfl⟩
  have hw := fun d (hd : d ∈ tables_1) => atoms_spec (ws := Jvm.Cond.code x code maxLocals ret :: tables_1) hat d (List.mem_cons_of_mem _ hd)
  obtain ⟨i0, ei0⟩ := is_v hg0
  obtain rfl : w0 = (.int i0) := Option.some.inj ei0
  obtain ⟨i1, ei1⟩ := is_v hg1
  obtain rfl : w1 = (.int i1) := Option.some.inj ei1
  obtain ⟨i2, ei2⟩ := is_v hg2
  obtain rfl : w2 = (.int i2) := Option.some.inj ei2
  obtain ⟨i3, ei3⟩ := is_v hg3
  obtain rfl : w3 = (.int i3) := Option.some.inj ei3
  obtain ⟨i4, ei4⟩ := is_v hg4
  obtain rfl : w4 = (.int i4) := Option.some.inj ei4
  obtain ⟨i5, ei5⟩ := is_v hg5
  obtain rfl : w5 = (.int i5) := Option.some.inj ei5
  obtain ⟨n, o, h1, h2, h3, _, L, rfl, ⟨rfl, N, -⟩, hq⟩ := rm0 l s _ hw tables_1 i0 i1 i2 i3 i4 i5 s.heap s.heap.size (Rep.nil _) p e ha hc hk s m _ below hf ((Spec.applies_iff_loose hf).mp happ).1 ⟨rfl, State.Warmed39.refl s, rfl⟩ trivial
  refine ⟨n, _, h1, h2, h3, hpost _ _ _ _ _ _ ⟨Cond.after_iff.mpr rfl, Cond.after_iff.mpr (eq_i res_at (Term.int_eval (1)) rfl), trivial⟩ ⟨hq.1, hq.2.1, (hq.2.2.sift fun y hy => Or.inr (N y hy)).mono (by decide) (by decide)⟩⟩
theorem main_1_1 : Claimed_1_1 := comes_1 fun _ _ _ _ _ _ h hF => ⟨h.1, hF⟩
theorem main_1_2 : Claimed_1_2 := comes_1 fun _ _ _ _ _ _ h hF => ⟨h.2.1, hF⟩
end Jvm.Pilot.@@N@@
namespace Jvm.Pilot.@@N@@
open Jvm Jvm.ClassFile Sem Op Lib Jvm.Free Jvm.Stand Jvm.Pilot.@@N@@.Jvm.D
/-! MADE BY PROGRAM (witnessworld.py) out of the Statement's table words and the real class files: 12 classes; the members and pool entries that the words name. The judged class is class 1, her method 2. -/
namespace start1
open Jvm.ClassFile
def u (s : String) : CpInfo := .utf8 (stringToUtf16 s)
/-- a pool by its gaps: so many unusable entries, then the entry; so many at the end -/
def gap : Nat → List CpInfo → List CpInfo
  | 0, r => r
  | n + 1, r => .unusable :: gap n r
def poolList (es : List (Nat × CpInfo)) (last : Nat) : List CpInfo := es.foldr (fun e r => gap e.1 (e.2 :: r)) (gap last [])
def pool (es : List (Nat × CpInfo)) (last : Nat) : Array CpInfo := ⟨poolList es last⟩
def fileOf (pool : Array CpInfo) (this : Nat) (attrs : Array Attribute := #[]) (ms : Array MethodInfo := #[]) (fl : Nat := 33) (sup : Nat := 0) (ifs : Array Nat := #[]) (fds : Array FieldInfo := #[]) : ClassFile where
  minorVersion := 0
  majorVersion := 65
  constantPool := pool
  accessFlags := fl
  thisClass := this
  superClass := sup
  interfaces := ifs
  fields := fds
  methods := ms
  attributes := attrs
def plain (name : String) (sup : Option ClassId) : Class where
  name := name
  kind := .ordinary
  loader := none
  accessFlags := 33
  super := sup
  interfaces := #[]
  cf := none
  fields := #[]
  methods := #[]
  instanceTypes := #[]
  staticTypes := #[]
  resolved := #[]
  callSites := []
  init := .initialized
  statics := none
  mirror := none

def pool0 : Array CpInfo := pool [(5, u "<init>"), (0, u "()V"), (1, .class_ 10), (1, u "java/lang/Object"), (85, u "clone"), (0, u "()Ljava/lang/Object;")] 26

def k0c0 : Code := { maxStack := 0, maxLocals := 1, code := object_method_1_code, exceptionTable := #[], attributes := #[] }
def k0m0 : Method := { name := "<init>", desc := "()V", sig := { parameters := [], returnType := none }, accessFlags := 1, code := some k0c0 }
def k0m1 : Method := { name := "clone", desc := "()Ljava/lang/Object;", sig := { parameters := [], returnType := some (.object "java/lang/Object") }, accessFlags := 260, code := none }
/-- java/lang/Object -/
def k0 : Class := { plain "java/lang/Object" none with
  accessFlags := 33
  interfaces := #[]
  cf := some (fileOf pool0 8 #[] #[{ accessFlags := 1, nameIndex := 5, descriptorIndex := 6, attributes := #[] }, { accessFlags := 260, nameIndex := 96, descriptorIndex := 97, attributes := #[] }] 33 0 #[] #[])
  fields := #[]
  methods := #[k0m0, k0m1]
  instanceTypes := #[]
  staticTypes := #[]
  resolved := Array.replicate 124 none
  statics := none }

def pool1 : Array CpInfo := pool [(2, .class_ 4), (1, u "java/lang/Object"), (0, u "<init>"), (0, u "()V"), (0, .integer 2147483647), (0, .class_ 9), (0, u "com/example/witgen/witgen/regex/Partition"), (0, .methodref 8 11), (0, .nameAndType 5 12), (0, u "([II)V"), (0, .methodref 8 14), (0, .nameAndType 15 16), (0, u "mark"), (0, u "(I)V"), (0, .methodref 8 18), (0, .nameAndType 19 20), (0, u "isFirstOfBlock"), (0, u "(I)Z"), (0, .methodref 22 23), (0, .class_ 24), (0, .nameAndType 25 26), (0, u "com/example/witgen/witgen/regex/PartitionIsFirstOfBlockPinLaw"), (0, u "firstRef"), (0, u "([IIIZ)Z"), (3, u "law"), (0, u "(IIIIII)Z")] 4

def k1m0 : Method := { name := "<init>", desc := "()V", sig := { parameters := [], returnType := none }, accessFlags := 1, code := none }
def k1c1 : Code := { maxStack := 2, maxLocals := 6, code := method_2_code, exceptionTable := #[], attributes := #[] }
def k1m1 : Method := { name := "firstRef", desc := "([IIIZ)Z", sig := { parameters := [(.array .int), .int, .int, .boolean], returnType := some .boolean }, accessFlags := 10, code := some k1c1 }
def k1c2 : Code := { maxStack := 5, maxLocals := 16, code := code, exceptionTable := #[], attributes := #[] }
def k1m2 : Method := { name := "law", desc := "(IIIIII)Z", sig := { parameters := [.int, .int, .int, .int, .int, .int], returnType := some .boolean }, accessFlags := 9, code := some k1c2 }
/-- com/example/witgen/witgen/regex/PartitionIsFirstOfBlockPinLaw -/
def k1 : Class := { plain "com/example/witgen/witgen/regex/PartitionIsFirstOfBlockPinLaw" (some 0) with
  accessFlags := 49
  interfaces := #[]
  cf := some (fileOf pool1 22 #[] #[{ accessFlags := 1, nameIndex := 5, descriptorIndex := 6, attributes := #[] }, { accessFlags := 10, nameIndex := 25, descriptorIndex := 26, attributes := #[] }, { accessFlags := 9, nameIndex := 30, descriptorIndex := 31, attributes := #[] }] 49 2 #[] #[])
  fields := #[]
  methods := #[k1m0, k1m1, k1m2]
  instanceTypes := #[]
  staticTypes := #[]
  resolved := Array.replicate 36 none
  statics := none }

def pool2 : Array CpInfo := pool [(1, .methodref 2 3), (0, .class_ 4), (0, .nameAndType 5 6), (0, u "java/lang/Object"), (0, u "<init>"), (0, u "()V"), (0, .methodref 8 9), (0, .class_ 10), (0, .nameAndType 11 12), (0, u "java/lang/Math"), (0, u "max"), (0, u "(II)I"), (0, .fieldref 14 15), (0, .class_ 16), (0, .nameAndType 17 18), (0, u "com/example/witgen/witgen/regex/Partition"), (0, u "elements"), (0, u "[I"), (0, .fieldref 14 20), (0, .nameAndType 21 18), (0, u "location"), (0, .methodref 23 24), (0, .class_ 18), (0, .nameAndType 25 26), (0, u "clone"), (0, u "()Ljava/lang/Object;"), (0, .fieldref 14 28), (0, .nameAndType 29 18), (0, u "blockOf"), (0, .fieldref 14 31), (0, .nameAndType 32 18), (0, u "start"), (0, .fieldref 14 34), (0, .nameAndType 35 18), (0, u "end"), (0, .fieldref 14 37), (0, .nameAndType 38 18), (0, u "marked"), (0, .fieldref 14 40), (0, .nameAndType 41 18), (0, u "touched"), (0, .fieldref 14 43), (0, .nameAndType 44 45), (0, u "blocks"), (0, u "I"), (0, .methodref 47 48), (0, .class_ 49), (0, .nameAndType 50 51), (0, u "java/util/Arrays"), (0, u "copyOf"), (0, u "([II)[I"), (0, .fieldref 14 53), (0, .nameAndType 54 45), (0, u "touchedCount"), (5, .class_ 62), (1, u "com/example/witgen/witgen/regex/Partition$Split"), (8, u "([II)V"), (4, u "isFirstOfBlock"), (0, u "(I)Z"), (0, u "mark"), (0, u "(I)V")] 11

def k2c0 : Code := { maxStack := 7, maxLocals := 9, code := prog_15_method_1_code, exceptionTable := #[], attributes := #[] }
def k2m0 : Method := { name := "<init>", desc := "([II)V", sig := { parameters := [(.array .int), .int], returnType := none }, accessFlags := 0, code := some k2c0 }
def k2c1 : Code := { maxStack := 4, maxLocals := 2, code := prog_15_method_5_code, exceptionTable := #[], attributes := #[] }
def k2m1 : Method := { name := "isFirstOfBlock", desc := "(I)Z", sig := { parameters := [.int], returnType := some .boolean }, accessFlags := 0, code := some k2c1 }
def k2c2 : Code := { maxStack := 5, maxLocals := 6, code := prog_15_method_6_code, exceptionTable := #[], attributes := #[] }
def k2m2 : Method := { name := "mark", desc := "(I)V", sig := { parameters := [.int], returnType := none }, accessFlags := 0, code := some k2c2 }
/-- com/example/witgen/witgen/regex/Partition -/
def k2 : Class := { plain "com/example/witgen/witgen/regex/Partition" (some 0) with
  accessFlags := 48
  interfaces := #[]
  cf := some (fileOf pool2 14 #[.nestMembers #[60]] #[{ accessFlags := 0, nameIndex := 5, descriptorIndex := 71, attributes := #[] }, { accessFlags := 0, nameIndex := 76, descriptorIndex := 77, attributes := #[] }, { accessFlags := 0, nameIndex := 78, descriptorIndex := 79, attributes := #[] }] 48 2 #[] #[{ accessFlags := 18, nameIndex := 17, descriptorIndex := 18, attributes := #[] }, { accessFlags := 18, nameIndex := 21, descriptorIndex := 18, attributes := #[] }, { accessFlags := 18, nameIndex := 29, descriptorIndex := 18, attributes := #[] }, { accessFlags := 18, nameIndex := 32, descriptorIndex := 18, attributes := #[] }, { accessFlags := 18, nameIndex := 35, descriptorIndex := 18, attributes := #[] }, { accessFlags := 18, nameIndex := 38, descriptorIndex := 18, attributes := #[] }, { accessFlags := 18, nameIndex := 41, descriptorIndex := 18, attributes := #[] }, { accessFlags := 2, nameIndex := 54, descriptorIndex := 45, attributes := #[] }, { accessFlags := 2, nameIndex := 44, descriptorIndex := 45, attributes := #[] }])
  fields := #[{ name := "elements", type := (.array .int), accessFlags := 18, slot := 0, constantValue := 0 }, { name := "location", type := (.array .int), accessFlags := 18, slot := 1, constantValue := 0 }, { name := "blockOf", type := (.array .int), accessFlags := 18, slot := 2, constantValue := 0 }, { name := "start", type := (.array .int), accessFlags := 18, slot := 3, constantValue := 0 }, { name := "end", type := (.array .int), accessFlags := 18, slot := 4, constantValue := 0 }, { name := "marked", type := (.array .int), accessFlags := 18, slot := 5, constantValue := 0 }, { name := "touched", type := (.array .int), accessFlags := 18, slot := 6, constantValue := 0 }, { name := "touchedCount", type := .int, accessFlags := 2, slot := 7, constantValue := 0 }, { name := "blocks", type := .int, accessFlags := 2, slot := 8, constantValue := 0 }]
  methods := #[k2m0, k2m1, k2m2]
  instanceTypes := #[(.array .int), (.array .int), (.array .int), (.array .int), (.array .int), (.array .int), (.array .int), .int, .int]
  staticTypes := #[]
  resolved := Array.replicate 91 none
  statics := none }

def pool3 : Array CpInfo := pool [(1, .class_ 2), (0, u "java/lang/Math"), (1, .class_ 6), (1, u "java/lang/Object"), (0, u "<init>"), (0, u "()V"), (89, .class_ 100), (1, u "java/lang/Math$RandomNumberGeneratorHolder"), (71, u "negativeZeroFloatBits"), (0, u "J"), (2, u "negativeZeroDoubleBits"), (21, u "max"), (2, u "min"), (43, u "$assertionsDisabled"), (0, u "Z"), (88, u "(II)I"), (2, u "twoToTheDoubleScaleDown"), (0, u "D"), (4, u "twoToTheDoubleScaleUp"), (9, u "E"), (3, u "PI"), (2, u "TAU"), (2, u "DEGREES_TO_RADIANS"), (0, u "RADIANS_TO_DEGREES")] 94

def k3m0 : Method := { name := "<init>", desc := "()V", sig := { parameters := [], returnType := none }, accessFlags := 2, code := none }
def k3c1 : Code := { maxStack := 2, maxLocals := 2, code := jdk_29_method_65_code, exceptionTable := #[], attributes := #[] }
def k3m1 : Method := { name := "max", desc := "(II)I", sig := { parameters := [.int, .int], returnType := some .int }, accessFlags := 9, code := some k3c1 }
def k3c2 : Code := { maxStack := 2, maxLocals := 2, code := jdk_29_method_69_code, exceptionTable := #[], attributes := #[] }
def k3m2 : Method := { name := "min", desc := "(II)I", sig := { parameters := [.int, .int], returnType := some .int }, accessFlags := 9, code := some k3c2 }
/-- java/lang/Math -/
def k3 : Class := { plain "java/lang/Math" (some 0) with
  accessFlags := 49
  interfaces := #[]
  cf := some (fileOf pool3 1 #[.nestMembers #[98]] #[{ accessFlags := 2, nameIndex := 7, descriptorIndex := 8, attributes := #[] }, { accessFlags := 9, nameIndex := 198, descriptorIndex := 335, attributes := #[] }, { accessFlags := 9, nameIndex := 201, descriptorIndex := 335, attributes := #[] }] 49 4 #[] #[{ accessFlags := 25, nameIndex := 354, descriptorIndex := 339, attributes := #[] }, { accessFlags := 25, nameIndex := 358, descriptorIndex := 339, attributes := #[] }, { accessFlags := 25, nameIndex := 361, descriptorIndex := 339, attributes := #[] }, { accessFlags := 26, nameIndex := 364, descriptorIndex := 339, attributes := #[] }, { accessFlags := 26, nameIndex := 365, descriptorIndex := 339, attributes := #[] }, { accessFlags := 26, nameIndex := 172, descriptorIndex := 173, attributes := #[] }, { accessFlags := 26, nameIndex := 176, descriptorIndex := 173, attributes := #[] }, { accessFlags := 8, nameIndex := 344, descriptorIndex := 339, attributes := #[] }, { accessFlags := 8, nameIndex := 338, descriptorIndex := 339, attributes := #[] }, { accessFlags := 4120, nameIndex := 245, descriptorIndex := 246, attributes := #[] }])
  fields := #[{ name := "E", type := .double, accessFlags := 25, slot := 0, constantValue := 0 }, { name := "PI", type := .double, accessFlags := 25, slot := 1, constantValue := 0 }, { name := "TAU", type := .double, accessFlags := 25, slot := 2, constantValue := 0 }, { name := "DEGREES_TO_RADIANS", type := .double, accessFlags := 26, slot := 3, constantValue := 0 }, { name := "RADIANS_TO_DEGREES", type := .double, accessFlags := 26, slot := 4, constantValue := 0 }, { name := "negativeZeroFloatBits", type := .long, accessFlags := 26, slot := 5, constantValue := 0 }, { name := "negativeZeroDoubleBits", type := .long, accessFlags := 26, slot := 6, constantValue := 0 }, { name := "twoToTheDoubleScaleUp", type := .double, accessFlags := 8, slot := 7, constantValue := 0 }, { name := "twoToTheDoubleScaleDown", type := .double, accessFlags := 8, slot := 8, constantValue := 0 }, { name := "$assertionsDisabled", type := .boolean, accessFlags := 4120, slot := 9, constantValue := 0 }]
  methods := #[k3m0, k3m1, k3m2]
  instanceTypes := #[]
  staticTypes := #[.double, .double, .double, .double, .double, .long, .long, .double, .double, .boolean]
  resolved := Array.replicate 460 none
  statics := none }

def pool4 : Array CpInfo := pool [(1, .class_ 2), (0, u "java/lang/Cloneable"), (0, .class_ 4), (0, u "java/lang/Object")] 2

/-- java/lang/Cloneable -/
def k4 : Class := { plain "java/lang/Cloneable" (some 0) with
  accessFlags := 1537
  interfaces := #[]
  cf := some (fileOf pool4 1 #[] #[] 1537 3 #[] #[])
  fields := #[]
  methods := #[]
  instanceTypes := #[]
  staticTypes := #[]
  resolved := Array.replicate 7 none
  statics := none }

def pool5 : Array CpInfo := pool [(2, .class_ 4), (1, u "java/lang/Object"), (0, u "<init>"), (0, u "()V"), (7, .class_ 16), (1, u "java/util/Arrays"), (57, .class_ 76), (1, u "java/util/Arrays$NaturalOrder"), (32, u "()Ljava/lang/Object;"), (3, .class_ 115), (1, u "java/util/Arrays$LegacyMergeSort"), (1, u "Z"), (10, .nameAndType 129 109), (0, u "clone"), (20, .methodref 151 152), (0, .class_ 153), (0, .nameAndType 154 155), (0, u "java/lang/System"), (0, u "arraycopy"), (0, u "(Ljava/lang/Object;ILjava/lang/Object;II)V"), (146, u "copyOf"), (1, .methodref 305 306), (0, .class_ 307), (0, .nameAndType 308 309), (0, u "java/lang/Math"), (0, u "min"), (0, u "(II)I"), (6, .methodref 317 128), (0, .class_ 318), (0, u "[I"), (56, .class_ 376), (0, u "java/util/Arrays$ArrayList"), (68, u "$assertionsDisabled"), (269, u "MIN_ARRAY_SORT_GRAN"), (0, u "I"), (2, u "INSERTIONSORT_THRESHOLD"), (151, u "([II)[I"), (103, .class_ 976), (0, u "java/util/Arrays$ArrayItr")] 52

def k5m0 : Method := { name := "<init>", desc := "()V", sig := { parameters := [], returnType := none }, accessFlags := 2, code := none }
def k5c1 : Code := { maxStack := 6, maxLocals := 3, code := jdk_65_method_123_code, exceptionTable := #[], attributes := #[] }
def k5m1 : Method := { name := "copyOf", desc := "([II)[I", sig := { parameters := [(.array .int), .int], returnType := some (.array .int) }, accessFlags := 9, code := some k5c1 }
/-- java/util/Arrays -/
def k5 : Class := { plain "java/util/Arrays" (some 0) with
  accessFlags := 49
  interfaces := #[]
  cf := some (fileOf pool5 14 #[.nestMembers #[975, 375, 113, 74]] #[{ accessFlags := 2, nameIndex := 5, descriptorIndex := 6, attributes := #[] }, { accessFlags := 9, nameIndex := 302, descriptorIndex := 871, attributes := #[] }] 49 2 #[] #[{ accessFlags := 26, nameIndex := 715, descriptorIndex := 716, attributes := #[] }, { accessFlags := 26, nameIndex := 719, descriptorIndex := 716, attributes := #[] }, { accessFlags := 4120, nameIndex := 445, descriptorIndex := 117, attributes := #[] }])
  fields := #[{ name := "MIN_ARRAY_SORT_GRAN", type := .int, accessFlags := 26, slot := 0, constantValue := 0 }, { name := "INSERTIONSORT_THRESHOLD", type := .int, accessFlags := 26, slot := 1, constantValue := 0 }, { name := "$assertionsDisabled", type := .boolean, accessFlags := 4120, slot := 2, constantValue := 0 }]
  methods := #[k5m0, k5m1]
  instanceTypes := #[]
  staticTypes := #[.int, .int, .boolean]
  resolved := Array.replicate 1029 none
  statics := none }

def pool6 : Array CpInfo := pool [(2, .class_ 4), (1, u "java/lang/Object"), (0, u "<init>"), (0, u "()V"), (1, .class_ 10), (1, u "java/lang/System"), (0, u "allowSecurityManager"), (0, u "I"), (16, u "cons"), (0, u "Ljava/io/Console;"), (77, .class_ 110), (1, u "java/lang/System$CallersHolder"), (43, u "initialErrStream"), (0, u "Ljava/io/PrintStream;"), (19, u "security"), (0, u "Ljava/lang/SecurityManager;"), (31, .class_ 209), (0, u "java/lang/System$1"), (7, u "props"), (0, u "Ljava/util/Properties;"), (2, u "lineSeparator"), (0, u "Ljava/lang/String;"), (96, .class_ 321), (1, u "java/lang/System$LoggerFinder"), (5, .class_ 328), (0, u "java/lang/System$Logger"), (67, u "err"), (2, u "out"), (91, u "notSupportedJnuEncoding"), (15, u "in"), (17, u "initialIn"), (0, u "Ljava/io/InputStream;"), (35, u "bootLayer"), (0, u "Ljava/lang/ModuleLayer;"), (99, .class_ 664), (0, u "java/lang/System$2"), (9, u "NEVER"), (2, u "MAYBE"), (49, u "arraycopy"), (0, u "(Ljava/lang/Object;ILjava/lang/Object;II)V"), (72, .class_ 802), (0, u "java/lang/System$Logger$Level")] 31

def k6m0 : Method := { name := "<init>", desc := "()V", sig := { parameters := [], returnType := none }, accessFlags := 2, code := none }
def k6m1 : Method := { name := "arraycopy", desc := "(Ljava/lang/Object;ILjava/lang/Object;II)V", sig := { parameters := [(.object "java/lang/Object"), .int, (.object "java/lang/Object"), .int, .int], returnType := none }, accessFlags := 265, code := none }
/-- java/lang/System -/
def k6 : Class := { plain "java/lang/System" (some 0) with
  accessFlags := 49
  interfaces := #[]
  cf := some (fileOf pool6 8 #[.nestMembers #[319, 327, 801, 108, 663, 208]] #[{ accessFlags := 2, nameIndex := 5, descriptorIndex := 6, attributes := #[] }, { accessFlags := 265, nameIndex := 727, descriptorIndex := 728, attributes := #[] }] 49 2 #[] #[{ accessFlags := 25, nameIndex := 507, descriptorIndex := 526, attributes := #[] }, { accessFlags := 25, nameIndex := 399, descriptorIndex := 155, attributes := #[] }, { accessFlags := 25, nameIndex := 396, descriptorIndex := 155, attributes := #[] }, { accessFlags := 10, nameIndex := 525, descriptorIndex := 526, attributes := #[] }, { accessFlags := 26, nameIndex := 674, descriptorIndex := 12, attributes := #[] }, { accessFlags := 26, nameIndex := 677, descriptorIndex := 12, attributes := #[] }, { accessFlags := 10, nameIndex := 11, descriptorIndex := 12, attributes := #[] }, { accessFlags := 74, nameIndex := 175, descriptorIndex := 176, attributes := #[] }, { accessFlags := 10, nameIndex := 491, descriptorIndex := 222, attributes := #[] }, { accessFlags := 74, nameIndex := 29, descriptorIndex := 30, attributes := #[] }, { accessFlags := 74, nameIndex := 154, descriptorIndex := 155, attributes := #[] }, { accessFlags := 10, nameIndex := 217, descriptorIndex := 218, attributes := #[] }, { accessFlags := 10, nameIndex := 221, descriptorIndex := 222, attributes := #[] }, { accessFlags := 8, nameIndex := 562, descriptorIndex := 563, attributes := #[] }])
  fields := #[{ name := "in", type := (.object "java/io/InputStream"), accessFlags := 25, slot := 0, constantValue := 0 }, { name := "out", type := (.object "java/io/PrintStream"), accessFlags := 25, slot := 1, constantValue := 0 }, { name := "err", type := (.object "java/io/PrintStream"), accessFlags := 25, slot := 2, constantValue := 0 }, { name := "initialIn", type := (.object "java/io/InputStream"), accessFlags := 10, slot := 3, constantValue := 0 }, { name := "NEVER", type := .int, accessFlags := 26, slot := 4, constantValue := 0 }, { name := "MAYBE", type := .int, accessFlags := 26, slot := 5, constantValue := 0 }, { name := "allowSecurityManager", type := .int, accessFlags := 10, slot := 6, constantValue := 0 }, { name := "security", type := (.object "java/lang/SecurityManager"), accessFlags := 74, slot := 7, constantValue := 0 }, { name := "notSupportedJnuEncoding", type := (.object "java/lang/String"), accessFlags := 10, slot := 8, constantValue := 0 }, { name := "cons", type := (.object "java/io/Console"), accessFlags := 74, slot := 9, constantValue := 0 }, { name := "initialErrStream", type := (.object "java/io/PrintStream"), accessFlags := 74, slot := 10, constantValue := 0 }, { name := "props", type := (.object "java/util/Properties"), accessFlags := 10, slot := 11, constantValue := 0 }, { name := "lineSeparator", type := (.object "java/lang/String"), accessFlags := 10, slot := 12, constantValue := 0 }, { name := "bootLayer", type := (.object "java/lang/ModuleLayer"), accessFlags := 8, slot := 13, constantValue := 0 }]
  methods := #[k6m0, k6m1]
  instanceTypes := #[]
  staticTypes := #[(.object "java/io/InputStream"), (.object "java/io/PrintStream"), (.object "java/io/PrintStream"), (.object "java/io/InputStream"), .int, .int, .int, (.object "java/lang/SecurityManager"), (.object "java/lang/String"), (.object "java/io/Console"), (.object "java/io/PrintStream"), (.object "java/util/Properties"), (.object "java/lang/String"), (.object "java/lang/ModuleLayer")]
  resolved := Array.replicate 834 none
  statics := none }

def pool7 : Array CpInfo := pool [(1, u "java/io/Serializable"), (0, .class_ 1), (0, u "java/lang/Object"), (0, .class_ 3)] 3

/-- java/io/Serializable -/
def k7 : Class := { plain "java/io/Serializable" (some 0) with
  accessFlags := 1537
  interfaces := #[]
  cf := some (fileOf pool7 2 #[] #[] 1537 4 #[] #[])
  fields := #[]
  methods := #[]
  instanceTypes := #[]
  staticTypes := #[]
  resolved := Array.replicate 8 none
  statics := none }

/-- the primitive byte -/
def k8 : Class := { plain "byte" none with kind := .primitive 'B', accessFlags := 0x411 }
/-- [B -/
def k9 : Class := { plain "[B" (some 0) with kind := .array 8 .byte, interfaces := #[4, 7], accessFlags := 1041 }

/-- the primitive int -/
def k10 : Class := { plain "int" none with kind := .primitive 'I', accessFlags := 0x411 }
/-- [I -/
def k11 : Class := { plain "[I" (some 0) with kind := .array 10 .int, interfaces := #[4, 7], accessFlags := 1041 }

def heap : Heap := #[]
def classes : Array Class := #[k0, k1, k2, k3, k4, k5, k6, k7, k8, k9, k10, k11]
def interned : List (Array UInt16 × Addr) := []
def slotsUsed : Nat := 0
def theMethod : MethodId := ⟨1, 2⟩
def args0 : Array Value := #[.int 5, .int 6, .int 7, .int 8, .int 9, .int 3]
def aboutOver (below : List Frame) : State where
  vm := { classes := classes, interned := interned.toArray }
  heap := heap
  slotsUsed := slotsUsed
  threads := #[{ frames := .invoking theMethod args0 :: below }]
def below0 : List Frame := [.native { method := ⟨0, 0⟩, args := #[] }]
def about1 : State := aboutOver below0
def p0 : Program := .bare "" "" ""
def e0 : Env := launch0.env 0 0 0
theorem w_frames : about1.frames = Frame.invoking theMethod args0 :: below0 := rfl
set_option maxRecDepth 65536 in
theorem w_args : argsFit about1.vm theMethod args0 = true := by decide +kernel
set_option maxRecDepth 65536 in
theorem w_heap : heapFits about1 = true := by decide +kernel
set_option maxRecDepth 65536 in
theorem w_runnable : about1.curStatus? = some .runnable := by decide +kernel
set_option maxRecDepth 65536 in
theorem w_alone : about1.alone = true := by decide +kernel
set_option maxRecDepth 65536 in
theorem w_named : about1.methodNamed? x = some theMethod := by decide +kernel
set_option maxRecDepth 65536 in
theorem w_hears : about1.hears theMethod below0 = true := by decide +kernel
set_option maxRecDepth 65536 in
theorem w_ripe : about1.ripe theMethod args0 below0 = true := by decide +kernel
theorem w_running : about1.status = .running := rfl
set_option maxRecDepth 65536 in
theorem w_room : about1.hasRoom e0.platform room_1 = true :=
  launch0.hasRoom_least _ room_1 (by decide +kernel) (by decide +kernel) (by decide +kernel) (by decide +kernel) (by decide +kernel) (by decide +kernel)
theorem allAtoms_all (ts : List Jvm.Cond) (a : Array Jvm.Value) (st : Jvm.State) : (allAtoms ts).before a st = ts.all (fun c => c.before a st) := by
  induction ts with
  | nil => rfl
  | cons c t ih =>
    show (Jvm.Cond.and c (allAtoms t)).before a st = _
    rw [Jvm.Cond.before_and, ih, List.all_cons]
def words1 : List Jvm.Cond := Jvm.Cond.code x code maxLocals ret :: tables_1
/-- a 'code' word, met by the world's own term for the bytes: nothing is compared byte by byte -/
theorem code_word {y : MethodName} {bytes : ByteArray} {mx : Nat} {rt : Option FieldType} {a : Array Value} {s : State} {m : MethodId} {meth : Method} {c : Code} (h1 : s.methodNamed? y = some m) (h2 : s.vm.method? m = some meth) (h3 : meth.code = some c) (h4 : c.code = bytes)
    (h5 : (c.maxLocals == mx && c.exceptionTable.isEmpty && decide (c.maxStack ≤ mostOperands) && decide (meth.sig.returnType = rt) && !meth.locks && decide (parseMethodDescriptor y.desc = some meth.sig)) = true) : (Jvm.Cond.code y bytes mx rt).before a s = true := by
  simp only [Bool.and_eq_true, beq_iff_eq, Bool.not_eq_true', decide_eq_true_eq] at h5
  obtain ⟨⟨⟨⟨⟨g1, g2⟩, g3⟩, g4⟩, g5⟩, g6⟩ := h5
  simp [Cond.before, Cond.holds, Cond.value, h1, h2, h3, h4, g1, g2, g3, g4, g5, g6]
def isCode : Jvm.Cond → Bool
  | .code _ _ _ _ => true
  | _ => false
theorem all_split {L : List Jvm.Cond} {P : Jvm.Cond → Bool} (h1 : L.all (fun c => isCode c || P c) = true) (h2 : ∀ c ∈ L.filter isCode, P c = true) : L.all P = true := by
  refine List.all_eq_true.mpr fun c hc => ?_
  have h := List.all_eq_true.mp h1 c hc
  rcases Bool.eq_false_or_eq_true (isCode c) with hi | hi
  · exact h2 c (List.mem_filter.mpr ⟨hc, hi⟩)
  · simpa [hi] using h
set_option maxRecDepth 65536 in
theorem w_c0 : (Jvm.Cond.code x code maxLocals ret).before args0 about1 = true := code_word (m := ⟨1, 2⟩) (meth := k1m2) (c := k1c2) (by decide +kernel) rfl rfl rfl (by decide +kernel)
set_option maxRecDepth 65536 in
theorem w_c1 : (Jvm.Cond.code ({ cls := "com/example/witgen/witgen/regex/Partition", name := "<init>", desc := "([II)V" } : Jvm.MethodName) prog_15_method_1_code (9 : Nat) (Option.none : Option Jvm.ClassFile.FieldType)).before args0 about1 = true := code_word (m := ⟨2, 0⟩) (meth := k2m0) (c := k2c0) (by decide +kernel) rfl rfl rfl (by decide +kernel)
set_option maxRecDepth 65536 in
theorem w_c2 : (Jvm.Cond.code ({ cls := "java/lang/Object", name := "<init>", desc := "()V" } : Jvm.MethodName) object_method_1_code (1 : Nat) (Option.none : Option Jvm.ClassFile.FieldType)).before args0 about1 = true := code_word (m := ⟨0, 0⟩) (meth := k0m0) (c := k0c0) (by decide +kernel) rfl rfl rfl (by decide +kernel)
set_option maxRecDepth 65536 in
theorem w_c3 : (Jvm.Cond.code ({ cls := "java/lang/Math", name := "max", desc := "(II)I" } : Jvm.MethodName) jdk_29_method_65_code (2 : Nat) (Option.some Jvm.ClassFile.FieldType.int)).before args0 about1 = true := code_word (m := ⟨3, 1⟩) (meth := k3m1) (c := k3c1) (by decide +kernel) rfl rfl rfl (by decide +kernel)
set_option maxRecDepth 65536 in
theorem w_c4 : (Jvm.Cond.code ({ cls := "java/util/Arrays", name := "copyOf", desc := "([II)[I" } : Jvm.MethodName) jdk_65_method_123_code (3 : Nat) (Option.some (Jvm.ClassFile.FieldType.array Jvm.ClassFile.FieldType.int))).before args0 about1 = true := code_word (m := ⟨5, 1⟩) (meth := k5m1) (c := k5c1) (by decide +kernel) rfl rfl rfl (by decide +kernel)
set_option maxRecDepth 65536 in
theorem w_c5 : (Jvm.Cond.code ({ cls := "java/lang/Math", name := "min", desc := "(II)I" } : Jvm.MethodName) jdk_29_method_69_code (2 : Nat) (Option.some Jvm.ClassFile.FieldType.int)).before args0 about1 = true := code_word (m := ⟨3, 2⟩) (meth := k3m2) (c := k3c2) (by decide +kernel) rfl rfl rfl (by decide +kernel)
set_option maxRecDepth 65536 in
theorem w_c6 : (Jvm.Cond.code ({ cls := "com/example/witgen/witgen/regex/Partition", name := "mark", desc := "(I)V" } : Jvm.MethodName) prog_15_method_6_code (6 : Nat) (Option.none : Option Jvm.ClassFile.FieldType)).before args0 about1 = true := code_word (m := ⟨2, 2⟩) (meth := k2m2) (c := k2c2) (by decide +kernel) rfl rfl rfl (by decide +kernel)
set_option maxRecDepth 65536 in
theorem w_c7 : (Jvm.Cond.code ({ cls := "com/example/witgen/witgen/regex/Partition", name := "isFirstOfBlock", desc := "(I)Z" } : Jvm.MethodName) prog_15_method_5_code (2 : Nat) (Option.some Jvm.ClassFile.FieldType.boolean)).before args0 about1 = true := code_word (m := ⟨2, 1⟩) (meth := k2m1) (c := k2c1) (by decide +kernel) rfl rfl rfl (by decide +kernel)
set_option maxRecDepth 65536 in
theorem w_c8 : (Jvm.Cond.code ({ cls := "com/example/witgen/witgen/regex/PartitionIsFirstOfBlockPinLaw", name := "firstRef", desc := "([IIIZ)Z" } : Jvm.MethodName) method_2_code (6 : Nat) (Option.some Jvm.ClassFile.FieldType.boolean)).before args0 about1 = true := code_word (m := ⟨1, 1⟩) (meth := k1m1) (c := k1c1) (by decide +kernel) rfl rfl rfl (by decide +kernel)
def codes1 : List Jvm.Cond := [Jvm.Cond.code x code maxLocals ret, Jvm.Cond.code ({ cls := "com/example/witgen/witgen/regex/Partition", name := "<init>", desc := "([II)V" } : Jvm.MethodName) prog_15_method_1_code (9 : Nat) (Option.none : Option Jvm.ClassFile.FieldType), Jvm.Cond.code ({ cls := "java/lang/Object", name := "<init>", desc := "()V" } : Jvm.MethodName) object_method_1_code (1 : Nat) (Option.none : Option Jvm.ClassFile.FieldType), Jvm.Cond.code ({ cls := "java/lang/Math", name := "max", desc := "(II)I" } : Jvm.MethodName) jdk_29_method_65_code (2 : Nat) (Option.some Jvm.ClassFile.FieldType.int), Jvm.Cond.code ({ cls := "java/util/Arrays", name := "copyOf", desc := "([II)[I" } : Jvm.MethodName) jdk_65_method_123_code (3 : Nat) (Option.some (Jvm.ClassFile.FieldType.array Jvm.ClassFile.FieldType.int)), Jvm.Cond.code ({ cls := "java/lang/Math", name := "min", desc := "(II)I" } : Jvm.MethodName) jdk_29_method_69_code (2 : Nat) (Option.some Jvm.ClassFile.FieldType.int), Jvm.Cond.code ({ cls := "com/example/witgen/witgen/regex/Partition", name := "mark", desc := "(I)V" } : Jvm.MethodName) prog_15_method_6_code (6 : Nat) (Option.none : Option Jvm.ClassFile.FieldType), Jvm.Cond.code ({ cls := "com/example/witgen/witgen/regex/Partition", name := "isFirstOfBlock", desc := "(I)Z" } : Jvm.MethodName) prog_15_method_5_code (2 : Nat) (Option.some Jvm.ClassFile.FieldType.boolean), Jvm.Cond.code ({ cls := "com/example/witgen/witgen/regex/PartitionIsFirstOfBlockPinLaw", name := "firstRef", desc := "([IIIZ)Z" } : Jvm.MethodName) method_2_code (6 : Nat) (Option.some Jvm.ClassFile.FieldType.boolean)]
set_option maxRecDepth 65536 in
theorem codes_eq : words1.filter isCode = codes1 := rfl
theorem w_codes : ∀ c ∈ words1.filter isCode, c.before args0 about1 = true := by
  rw [codes_eq]
  intro c hc
  simp only [codes1, List.mem_cons, List.not_mem_nil, or_false] at hc
  rcases hc with rfl | rfl | rfl | rfl | rfl | rfl | rfl | rfl | rfl
  · exact w_c0
  · exact w_c1
  · exact w_c2
  · exact w_c3
  · exact w_c4
  · exact w_c5
  · exact w_c6
  · exact w_c7
  · exact w_c8
set_option maxRecDepth 65536 in
theorem w_t1 : (words1.take 24).all (fun c => isCode c || c.before args0 about1) = true := by decide +kernel
set_option maxRecDepth 65536 in
theorem w_t2 : ((words1.drop 24).take 24).all (fun c => isCode c || c.before args0 about1) = true := by decide +kernel
set_option maxRecDepth 65536 in
theorem w_t3 : ((words1.drop 24).drop 24).all (fun c => isCode c || c.before args0 about1) = true := by decide +kernel
theorem w_tables : (allAtoms (Jvm.Cond.code x code maxLocals ret :: tables_1)).before args0 about1 = true := by
  rw [allAtoms_all]
  show words1.all (fun c => c.before args0 about1) = true
  refine all_split ?_ w_codes
  rw [← List.take_append_drop 24 words1, List.all_append, w_t1, ← List.take_append_drop 24 (words1.drop 24), List.all_append, w_t2, w_t3]
  rfl
set_option maxRecDepth 65536 in
theorem w_case : (Jvm.Cond.and given_1 narrow_1).before args0 about1 = true := by decide +kernel
theorem w_applies : (headSpec (Jvm.Cond.code x code maxLocals ret :: tables_1) room_1).applies x e0.platform about1 = true :=
  (Spec.applies_iff w_frames).mpr ⟨w_running, w_runnable, w_alone, w_named, w_hears, w_ripe, w_room, w_tables⟩
theorem atStart : AtStart classFile x code maxLocals ret World_1 tables_1 room_1 Calls_1 rest_1 Pre_1 launch0 p0 e0 about1 theMethod args0 below0 :=
  ⟨lists_1, trivial, launch0.admits_env _ _ _, launch0.least_env, fairChoices_fair.cas, fairChoices_fair.clock, w_frames, w_args, w_heap, w_applies, trivial, trivial, w_case⟩
end start1
theorem witness_1 : WitnessClaimed_1 := ⟨start1.p0, start1.e0, start1.about1, start1.theMethod, start1.args0, start1.below0, start1.atStart⟩
end Jvm.Pilot.@@N@@
