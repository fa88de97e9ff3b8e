import JvmDerived
import JvmDerived.Pilot.@@N@@Statement
import JvmDerived.Pilot.@@N@@Code
set_option linter.unusedVariables false
set_option linter.unusedSimpArgs false
namespace Jvm.Own
open Jvm Jvm.ClassFile Sem Op Lib Jvm.Free Jvm.Stand Jvm.LawKit Jvm.RoadKit
/-! ## A heap told by a list: each new object or array by its address and what its cell is -/
abbrev Des : Type := State → Cell → Prop
abbrev RL : Type := List (Addr × Des)
/-- an object of class C, its fields (name, descriptor, value), all declared in C -/
def Obj (C : String) (fs : List (String × String × Value)) : Des := fun Z c =>
  Exa Z (#[c] : Heap) 0 C ∧ (∀ (j : Nat) (x : String × String × Value), fs[j]? = some x → Fld Z (#[c] : Heap) 0 C x.1 x.2.1 x.2.2) ∧
  ∀ (i j : Nat) (x y : String × String × Value), i ≠ j → fs[i]? = some x → fs[j]? = some y → Jvm.RoadKit.slotOf Z C x.1 x.2.1 ≠ Jvm.RoadKit.slotOf Z C y.1 y.2.1
/-- an array of ty, all its values -/
def Ar (ty : FieldType) (vs : List Value) : Des := fun Z c => Z.isArrayOf c ty ∧ c.vm ≠ .unknown ∧ c.slots.toList = vs ∧ (∀ v ∈ vs, fits ty v = true) ∧ Exa Z (#[c] : Heap) 0 ("[" ++ ty.toString)
/-- every one of L lies in h, at or behind n0, no two at one place -/
def Rep (Z : State) (n0 : Nat) (h : Heap) (L : RL) : Prop := n0 ≤ h.size ∧ (L.map (·.1)).Nodup ∧ ∀ x ∈ L, n0 ≤ x.1 ∧ ∃ c : Cell, h[x.1]? = some c ∧ x.2 Z c
section Facts
variable {Z : State} {n0 : Nat} {h h' : Heap} {L : RL} {a : Addr} {c : Cell} {C n d : String} {v w : Value} {i j : Nat} {fs : List (String × String × Value)} {P P' : Des} {ty : FieldType} {vs : List Value}
theorem one_eq {c c' : Cell} (q : (#[c] : Heap)[0]? = some c') : c' = c := by simpa using q.symm
theorem fld_of (hc : h[a]? = some c) (F : Fld Z (#[c] : Heap) 0 C n d v) : Fld Z h a C n d v := by
  obtain ⟨cell, cf, k, i, f, h1, r⟩ := F
  cases one_eq h1
  exact ⟨_, cf, k, i, f, hc, r⟩
theorem fld_to (hc : h[a]? = some c) (F : Fld Z h a C n d v) : Fld Z (#[c] : Heap) 0 C n d v := by
  obtain ⟨cell, cf, k, i, f, h1, r⟩ := F
  cases hc.symm.trans h1
  exact ⟨_, cf, k, i, f, rfl, r⟩
theorem exa_of (hc : h[a]? = some c) (F : Exa Z (#[c] : Heap) 0 C) : Exa Z h a C := by
  obtain ⟨cell, k, h1, r⟩ := F
  cases one_eq h1
  exact ⟨_, k, hc, r⟩
theorem exa_to (hc : h[a]? = some c) (F : Exa Z h a C) : Exa Z (#[c] : Heap) 0 C := by
  obtain ⟨cell, k, h1, r⟩ := F
  cases hc.symm.trans h1
  exact ⟨_, k, rfl, r⟩
theorem Rep.nil (h : Heap) : Rep Z h.size h [] := ⟨Nat.le_refl _, List.nodup_nil, fun _ q => nomatch q⟩
theorem Rep.at (R : Rep Z n0 h L) (hi : L[i]? = some (a, P)) : n0 ≤ a ∧ ∃ c : Cell, h[a]? = some c ∧ P Z c := R.2.2 _ (List.mem_of_getElem? hi)
theorem Rep.ge (R : Rep Z n0 h L) (hi : L[i]? = some (a, P)) : n0 ≤ a := (R.at hi).1
theorem Rep.fld (R : Rep Z n0 h L) (hi : L[i]? = some (a, Obj C fs)) (hj : fs[j]? = some (n, d, v)) : Fld Z h a C n d v := by
  obtain ⟨-, c, hc, -, F, -⟩ := R.at hi
  exact fld_of hc (F j _ hj)
theorem Rep.exa (R : Rep Z n0 h L) (hi : L[i]? = some (a, Obj C fs)) : Exa Z h a C := by
  obtain ⟨-, c, hc, E, -⟩ := R.at hi
  exact exa_of hc E
theorem Rep.arr (R : Rep Z n0 h L) (hi : L[i]? = some (a, Ar ty vs)) : ∃ cl : Cell, Arr Z h a cl ty ∧ cl.slots.toList = vs := by
  obtain ⟨-, c, hc, A, B, V, -⟩ := R.at hi
  exact ⟨c, ⟨hc, A, B⟩, V⟩
theorem Rep.arr' (R : Rep Z n0 h L) (hi : L[i]? = some (a, Ar ty vs)) : ∃ cl : Cell, Arr Z h a cl ty ∧ cl.slots.toList = vs ∧ (∀ v ∈ vs, fits ty v = true) ∧ Exa Z h a ("[" ++ ty.toString) := by
  obtain ⟨-, c, hc, A, B, V, F, E⟩ := R.at hi
  exact ⟨c, ⟨hc, A, B⟩, V, F, exa_of hc E⟩
theorem wr_one {sl : Nat} (hc : h[a]? = some c) (W : Wr h h' a sl v) : Wr (#[c] : Heap) (#[c.setSlot sl v] : Heap) 0 sl v := by
  obtain ⟨cell, h1, h2, h3, -⟩ := W
  cases hc.symm.trans h1
  exact ⟨_, rfl, h2, h3, rfl⟩
theorem Rep.upd {sl : Nat} (R : Rep Z n0 h L) (hi : L[i]? = some (a, P)) (W : Wr h h' a sl v) (hP : ∀ c : Cell, h[a]? = some c → P Z c → P' Z (c.setSlot sl v)) : Rep Z n0 h' (L.set i (a, P')) := by
  have em : (L.set i (a, P')).map (·.1) = L.map (·.1) := by
    rw [List.map_set]
    apply List.ext_getElem?
    intro k
    rw [List.getElem?_set]
    split
    · rename_i e; subst e
      split
      · simp [hi]
      · rename_i e; simp only [List.length_map] at e; simp [List.getElem?_eq_none (Nat.le_of_not_lt e)]
    · rfl
  have il : i < L.length := (List.getElem?_eq_some_iff.mp hi).1
  refine ⟨by rw [W.size]; exact R.1, by rw [em]; exact R.2.1, fun x hx => ?_⟩
  obtain ⟨k, hk⟩ := List.mem_iff_getElem?.mp hx
  rw [List.getElem?_set] at hk
  split at hk
  · rename_i e; subst e
    cases hk
    obtain ⟨g, c, hc, p⟩ := R.at hi
    obtain ⟨c', e1, -, -, -, -, -, e7⟩ := wr_at W hc
    exact ⟨g, c', e1, by rw [(e7 rfl).1]; exact hP c hc p⟩
  · rename_i e
    obtain ⟨g, c, hc, p⟩ := R.2.2 x (List.mem_of_getElem? hk)
    have ne : x.1 ≠ a := fun q => by
      refine e ((List.getElem?_inj (l := L.map (·.1)) (by simpa using il) R.2.1).mp ?_)
      simp [hi, hk, q]
    obtain ⟨c', e1, -, -, -, e5, -⟩ := wr_at W hc
    exact ⟨g, c', e1, by rw [e5 ne]; exact p⟩
theorem Rep.put (R : Rep Z n0 h L) (hi : L[i]? = some (a, Obj C fs)) (hj : fs[j]? = some (n, d, w)) (W : Wr h h' a (Jvm.RoadKit.slotOf Z C n d) v) : Rep Z n0 h' (L.set i (a, Obj C (fs.set j (n, d, v)))) := by
  refine R.upd hi W fun c hc ⟨E, F, S⟩ => ?_
  have W1 := wr_one hc W
  have jl : j < fs.length := (List.getElem?_eq_some_iff.mp hj).1
  have key : ∀ (k : Nat) (x : String × String × Value), (fs.set j (n, d, v))[k]? = some x → ∃ y, fs[k]? = some y ∧ y.1 = x.1 ∧ y.2.1 = x.2.1 ∧ (k ≠ j → y = x) ∧ (k = j → x = (n, d, v)) := by
    intro k x hk
    rw [List.getElem?_set] at hk
    split at hk
    · rename_i e; subst e
      have hx := (Option.some.inj hk).symm
      exact ⟨(n, d, w), hj, by rw [hx], by rw [hx], fun q => absurd rfl q, fun _ => hx⟩
    · rename_i e
      exact ⟨x, hk, rfl, rfl, fun _ => rfl, fun q => absurd q.symm e⟩
  refine ⟨E.wr W1, fun k x hk => ?_, fun k k' x y ne hk hk' => ?_⟩
  · obtain ⟨y, y1, y2, y3, y4, y5⟩ := key k x hk
    by_cases e : k = j
    · subst e
      have hx := y5 rfl
      rw [hx]
      exact (F _ _ hj).same W1
    · have hx := y4 e
      subst hx
      have s : Jvm.RoadKit.slotOf Z C y.1 y.2.1 ≠ Jvm.RoadKit.slotOf Z C n d := S k j y (n, d, w) e y1 hj
      exact Fld.other W1 (F k y y1) (Or.inr s)
  · have kx := key k x hk
    have ky := key k' y hk'
    obtain ⟨x', x1, x2, x3, _⟩ := kx
    obtain ⟨y', y1, y2, y3, _⟩ := ky
    have := S k k' x' y' ne x1 y1
    rw [x2, x3, y2, y3] at this
    exact this
theorem Rep.sto {k : Nat} (R : Rep Z n0 h L) (hi : L[i]? = some (a, Ar ty vs)) (W : Wr h h' a k v) (hf : fits ty v = true) : Rep Z n0 h' (L.set i (a, Ar ty (vs.set k v))) := by
  refine R.upd hi W fun c hc ⟨A, B, V, F, E⟩ => ⟨A, B, ?_, fun x hx => ?_, E.wr (wr_one hc W)⟩
  · show (c.slots.setIfInBounds k v).toList = _
    rw [Array.toList_setIfInBounds, V]
  · rcases List.mem_or_eq_of_mem_set hx with q | q
    · exact F x q
    · rw [q]; exact hf
theorem Rep.add (R : Rep Z n0 h L) (E : Ext h h') (g : a = h.size) (hc : h'[a]? = some c) (p : P Z c) : Rep Z n0 h' ((a, P) :: L) := by
  refine ⟨Nat.le_trans R.1 E.1, ?_, fun x hx => ?_⟩
  · rw [List.map_cons, List.nodup_cons]
    refine ⟨fun q => ?_, R.2.1⟩
    obtain ⟨x, hx, e⟩ := List.mem_map.mp q
    obtain ⟨-, c, hc, -⟩ := R.2.2 x hx
    have := (Array.getElem?_eq_some_iff.mp hc).1
    exact absurd (e.trans g) (Nat.ne_of_lt this)
  · rcases List.mem_cons.mp hx with rfl | hx
    · exact ⟨g ▸ R.1, c, hc, p⟩
    · obtain ⟨q, c, hc, p⟩ := R.2.2 x hx
      exact ⟨q, c, E.2 _ _ hc, p⟩
theorem Rep.ext (R : Rep Z n0 h L) (E : Ext h h') : Rep Z n0 h' L := ⟨Nat.le_trans R.1 E.1, R.2.1, fun x hx => by
  obtain ⟨q, c, hc, p⟩ := R.2.2 x hx
  exact ⟨q, c, E.2 _ _ hc, p⟩⟩
theorem perm_front {α : Type} : ∀ (L : List α) (i : Nat) (x : α), L[i]? = some x → (x :: L.eraseIdx i).Perm L
  | [], _, _, q => nomatch q
  | y :: t, 0, x, q => by cases q; exact List.Perm.refl _
  | y :: t, i + 1, x, q => by
    have ih := perm_front t i x (by simpa using q)
    exact (List.Perm.swap y x (t.eraseIdx i)).trans (ih.cons y)
theorem Rep.front {x : Addr × Des} {L' : RL} (R : Rep Z n0 h L) (i : Nat) (hi : L[i]? = some x) (e : L.eraseIdx i = L') : Rep Z n0 h (x :: L') := by
  subst e
  have pm : (x :: L.eraseIdx i).Perm L := perm_front L i x hi
  exact ⟨R.1, (pm.map _).nodup_iff.mpr R.2.1, fun y hy => R.2.2 y (pm.mem_iff.mp hy)⟩
theorem Rep.tail {x : Addr × Des} (R : Rep Z n0 h (x :: L)) : Rep Z n0 h L := ⟨R.1, (List.nodup_cons.mp (by simpa using R.2.1)).2, fun y hy => R.2.2 y (List.mem_cons_of_mem _ hy)⟩
/-- what the sheet says of the fields of a new object, one by one -/
def LaidAll (Z : State) (a0 : Array Value) (C : String) : List (String × String × Value) → Prop
  | [] => True
  | x :: r => (Laid Z a0 C C x.1 x.2.1 ∧ ∃ ty, parseFieldDescriptor x.2.1 = some ty ∧ x.2.2 = defaultValue ty) ∧ LaidAll Z a0 C r
theorem LaidAll.mem {a0 : Array Value} : ∀ {fs : List (String × String × Value)}, LaidAll Z a0 C fs → ∀ x ∈ fs, Laid Z a0 C C x.1 x.2.1 ∧ ∃ ty, parseFieldDescriptor x.2.1 = some ty ∧ x.2.2 = defaultValue ty
  | [], _, _, hx => nomatch hx
  | y :: r, q, x, hx => (List.mem_cons.mp hx).elim (fun e => e ▸ q.1) (LaidAll.mem q.2 x)
theorem Rep.newO {a0 : Array Value} (R : Rep Z n0 h L) (E : Ext h h') (g : a = h.size) (A : Exa Z h' a C) (D : ∀ {O nm d : String} {ty : FieldType}, Laid Z a0 C O nm d → parseFieldDescriptor d = some ty → Fld Z h' a O nm d (defaultValue ty)) (hl : LaidAll Z a0 C fs) (hn : (fs.map (·.1)).Nodup) : Rep Z n0 h' ((a, Obj C fs) :: L) := by
  obtain ⟨c, k, hc, r⟩ := id A
  refine R.add E g hc ⟨exa_to hc A, fun j x hx => ?_, fun i j x y ne hx hy e => ?_⟩
  · obtain ⟨l, ty, p, q⟩ := hl.mem x (List.mem_of_getElem? hx)
    rw [q]; exact fld_to hc (D l p)
  · obtain ⟨l, ty, p, q⟩ := hl.mem x (List.mem_of_getElem? hx)
    obtain ⟨l', ty', p', q'⟩ := hl.mem y (List.mem_of_getElem? hy)
    refine slot_ne l l' (fun en => ne ?_) p p' e
    refine (List.getElem?_inj (l := fs.map (·.1)) (by simpa using (List.getElem?_eq_some_iff.mp hx).1) hn).mp ?_
    simp [hx, hy, en]
theorem Rep.newAr {z : Int32} {k : ClassId} (R : Rep Z n0 h L) (E : Ext h h') (g : a = h.size) (A : Arr Z h' a (newA k ty z) ty) (X : Exa Z h' a ("[" ++ ty.toString)) (hf : fits ty (defaultValue ty) = true) (hv : List.replicate z.toNatClampNeg (defaultValue ty) = vs) : Rep Z n0 h' ((a, Ar ty vs) :: L) := by
  refine R.add E g A.1 ⟨A.2.1, A.2.2, ?_, fun v hq => ?_, exa_to A.1 X⟩
  · rw [← hv]; simp [newA]
  · rw [← hv] at hq; rw [List.eq_of_mem_replicate hq]; exact hf
theorem in_of {cl : Cell} {q : Int32} (V : cl.slots.toList = vs) (hq : ¬ q < 0) (hv : q.toNatClampNeg < vs.length) : ¬ (q < 0 ∨ cl.slots.size ≤ q.toNatClampNeg) := by
  rintro (q1 | q1)
  · exact hq q1
  · rw [← V, Array.length_toList] at hv; omega
theorem at_of {cl : Cell} {k : Nat} (V : cl.slots.toList = vs) (hv : vs[k]? = some v) : cl.slots[k]? = some v := by
  rw [← hv, ← V, Array.getElem?_toList]
theorem lt_of {k : Nat} (hv : vs[k]? = some v) : k < vs.length := (List.getElem?_eq_some_iff.mp hv).1
end Facts
/-! ## One law a step -/
section Steps
variable {p : Program} {l : Launch} {e : Env} {R : Room} {s : State} {m : MethodId} {args : Array Value} {below : List Frame} {meth : Method} {c : Code} {T : State} {locs : List Loc} {cells slots : Nat} {Z : State} {a0 : Array Value} {h : Heap} {n0 : Nat} {L : RL}
theorem gGet (X : Stand p l e R s m args below meth c T locs cells slots) (hx : p.tables.exec = Jvm.exec) (hZ : Z.Warmed39 s.vm) {own C n d host : String} {index : Nat} (hown : s.vm.findClass own = some m.cls) (w : (Cond.fieldLink own index C n d).before a0 Z = true ∨ (Cond.fieldLinkNest own index C n d host).before a0 Z = true)
    (eT : T.heap = h) (Q : Rep Z n0 h L) (i j : Nat) {a : Addr} {fs : List (String × String × Value)} {v : Value} (hi : L[i]? = some (a, Obj C fs)) (hj : fs[j]? = some (n, d, v)) {g : JFrame} (hg : g.method = m) {rest : List Value} (hs : g.stack = .ref a :: rest) (hd : decode c.code g.pc = .ok (.getfield index, 3)) :
    ∃ T', Stand p l e R s m args below meth c T' locs cells slots ∧ T'.heap = h ∧ ∀ target, Steps p.tables e below (T'.setTop { g with pc := g.pc + 3, stack := v :: rest }) target → Steps p.tables e below (T.setTop g) target :=
  getF X hx hZ hown w Via.refl eT (Q.fld hi hj) hg hs hd
theorem gPut (X : Stand p l e R s m args below meth c T locs cells slots) (hx : p.tables.exec = Jvm.exec) (hZ : Z.Warmed39 s.vm) {own C n d host : String} {index kk : Nat} {ty : FieldType} (hown : s.vm.findClass own = some m.cls) (w : (Cond.fieldLink own index C n d).before a0 Z = true ∨ (Cond.fieldLinkNest own index C n d host).before a0 Z = true)
    (eT : T.heap = h) (N : Fr n0 locs) (Q : Rep Z n0 h L) (i j : Nat) {a : Addr} {fs : List (String × String × Value)} {v old : Value} (hi : L[i]? = some (a, Obj C fs)) (hj : fs[j]? = some (n, d, old))
    (Lw : (Cond.lays C C n d).before a0 Z = true ∨ ((Cond.laysFinal C C n d).before a0 Z = true ∧ own = C ∧ meth.name = "<init>")) (wi : (Cond.instantiable C kk).before a0 Z = true)
    (hty : parseFieldDescriptor d = some ty) (hn : narrow ty v = v) (hf : fits ty v = true) {g : JFrame} (hg : g.method = m) {rest : List Value} (hs : g.stack = v :: .ref a :: rest) (hd : decode c.code g.pc = .ok (.putfield index, 3)) :
    ∃ T' h' locs', Stand p l e R s m args below meth c T' locs' cells slots ∧ T'.heap = h' ∧ Fr n0 locs' ∧ Rep Z n0 h' (L.set i (a, Obj C (fs.set j (n, d, v)))) ∧ ∀ target, Steps p.tables e below (T'.setTop { g with pc := g.pc + 3, stack := rest }) target → Steps p.tables e below (T.setTop g) target := by
  obtain ⟨T', h', X', e', W, st⟩ := putF X hx hZ hown w Via.refl eT (Q.fld hi hj) (Q.exa hi) Lw wi hty hn hf hg hs hd
  exact ⟨T', h', _, X', e', Fr.snoc X' N (Q.ge hi), Q.put hi hj W, st⟩
theorem gNew (X : Stand p l e R s m args below meth c T locs cells slots) (hx : p.tables.exec = Jvm.exec) (hZ : Z.Warmed39 s.vm) {own C : String} {index n : Nat} (hown : s.vm.findClass own = some m.cls) (w : (Cond.classLink own index C).before a0 Z = true) (wi : (Cond.instantiable C n).before a0 Z = true) (wz : (Cond.initialized C).before a0 Z = true)
    (eT : T.heap = h) (Q : Rep Z n0 h L) {fs : List (String × String × Value)} (hl : LaidAll Z a0 C fs) (hn : (fs.map (·.1)).Nodup) {g : JFrame} (hg : g.method = m) (hd : decode c.code g.pc = .ok (.new index, 3)) (hc : cells + 1 ≤ R.cells) (hs : slots + n ≤ R.slots) :
    ∃ T' h' a, Stand p l e R s m args below meth c T' locs (cells + 1) (slots + n) ∧ T'.heap = h' ∧ Rep Z n0 h' ((a, Obj C fs) :: L) ∧ ∀ target, Steps p.tables e below (T'.setTop { g with pc := g.pc + 3, stack := .ref a :: g.stack }) target → Steps p.tables e below (T.setTop g) target := by
  obtain ⟨T', h', X', e', E, A, D, -, st⟩ := newO X hx hZ hown w wi wz eT hg hd hc hs
  exact ⟨T', h', _, X', e', Q.newO E rfl A D hl hn, st⟩
theorem gNewP (X : Stand p l e R s m args below meth c T locs cells slots) (hx : p.tables.exec = Jvm.exec) (hZ : Z.Warmed39 s.vm) {aty : ArrayType} (w : (Cond.arrayClass (newarray.typeOf aty)).before a0 Z = true)
    (eT : T.heap = h) (Q : Rep Z n0 h L) {g : JFrame} (hg : g.method = m) (hd : decode c.code g.pc = .ok (.newarray aty, 2)) {n : Int32} {rest : List Value} (hs : g.stack = .int n :: rest) (hn : ¬ n < 0) (cap : Nat) (hcap : n.toNatClampNeg ≤ cap) (hb : cap * 8 ≤ 536870912) (hc : cells + 1 ≤ R.cells) (hl : slots + cap ≤ R.slots)
    {vs : List Value} (hv : List.replicate n.toNatClampNeg (defaultValue (newarray.typeOf aty)) = vs) :
    ∃ T' h' a, Stand p l e R s m args below meth c T' locs (cells + 1) (slots + cap) ∧ T'.heap = h' ∧ Rep Z n0 h' ((a, Ar (newarray.typeOf aty) vs) :: L) ∧ ∀ target, Steps p.tables e below (T'.setTop { g with pc := g.pc + 2, stack := .ref a :: rest }) target → Steps p.tables e below (T.setTop g) target := by
  obtain ⟨T', h', cA, X', e', E, A, EX, st⟩ := newPE X hx hZ w eT hg hd hs hn hcap hb hc hl rfl
  exact ⟨T', h', _, X', e', Q.newAr E rfl A EX (by cases aty <;> rfl) hv, st⟩
theorem gLen (X : Stand p l e R s m args below meth c T locs cells slots) (hx : p.tables.exec = Jvm.exec) (hZ : Z.Warmed39 s.vm) (eT : T.heap = h) (Q : Rep Z n0 h L) (i : Nat) {a : Addr} {ty : FieldType} {vs : List Value} (hi : L[i]? = some (a, Ar ty vs))
    {g : JFrame} (hg : g.method = m) {rest : List Value} (hs : g.stack = .ref a :: rest) (hd : decode c.code g.pc = .ok (.arraylength, 1)) {z : Int32} (hz : Int32.ofNat vs.length = z) :
    ∀ target, Steps p.tables e below (T.setTop { g with pc := g.pc + 1, stack := .int z :: rest }) target → Steps p.tables e below (T.setTop g) target := by
  obtain ⟨cl, A, V⟩ := Q.arr hi
  intro target k
  refine X.arraylength hx (cell := cl) (by rw [eT]; exact A.1) (State.isArrayOf_alike hZ.alike A.2.1) hg hs hd _ ?_
  have q : cl.slots.size.toInt32 = z := by rw [← hz, ← V, Array.length_toList]
  rw [q]; exact k
theorem gIald (X : Stand p l e R s m args below meth c T locs cells slots) (hx : p.tables.exec = Jvm.exec) (hZ : Z.Warmed39 s.vm) (eT : T.heap = h) (Q : Rep Z n0 h L) (i : Nat) {a : Addr} {vs : List Value} (hi : L[i]? = some (a, Ar .int vs))
    {j : Int32} {v : Value} (hj : ¬ j < 0) (hv : vs[j.toNatClampNeg]? = some v) {g : JFrame} (hg : g.method = m) {rest : List Value} (hs : g.stack = .int j :: .ref a :: rest) (hd : decode c.code g.pc = .ok (.iaload, 1)) :
    ∀ target, Steps p.tables e below (T.setTop { g with pc := g.pc + 1, stack := v :: rest }) target → Steps p.tables e below (T.setTop g) target := by
  obtain ⟨cl, A, V⟩ := Q.arr hi
  intro target k
  exact X.iaload hx (by rw [eT]; exact A.1) (State.isArrayOf_alike hZ.alike A.2.1) A.2.2 (in_of V hj (lt_of hv)) (at_of V hv) hg hs hd _ k
theorem gLald (X : Stand p l e R s m args below meth c T locs cells slots) (hx : p.tables.exec = Jvm.exec) (hZ : Z.Warmed39 s.vm) (eT : T.heap = h) (Q : Rep Z n0 h L) (i : Nat) {a : Addr} {vs : List Value} (hi : L[i]? = some (a, Ar .long vs))
    {j : Int32} {v : Value} (hj : ¬ j < 0) (hv : vs[j.toNatClampNeg]? = some v) {g : JFrame} (hg : g.method = m) {rest : List Value} (hs : g.stack = .int j :: .ref a :: rest) (hd : decode c.code g.pc = .ok (.laload, 1)) :
    ∀ target, Steps p.tables e below (T.setTop { g with pc := g.pc + 1, stack := v :: rest }) target → Steps p.tables e below (T.setTop g) target := by
  obtain ⟨cl, A, V⟩ := Q.arr hi
  intro target k
  exact X.laload hx (by rw [eT]; exact A.1) (State.isArrayOf_alike hZ.alike A.2.1) A.2.2 (in_of V hj (lt_of hv)) (at_of V hv) hg hs hd _ k
theorem gBald (X : Stand p l e R s m args below meth c T locs cells slots) (hx : p.tables.exec = Jvm.exec) (hZ : Z.Warmed39 s.vm) (eT : T.heap = h) (Q : Rep Z n0 h L) (i : Nat) {a : Addr} {vs : List Value} (hi : L[i]? = some (a, Ar .byte vs))
    {j : Int32} {v : Value} (hj : ¬ j < 0) (hv : vs[j.toNatClampNeg]? = some v) {g : JFrame} (hg : g.method = m) {rest : List Value} (hs : g.stack = .int j :: .ref a :: rest) (hd : decode c.code g.pc = .ok (.baload, 1)) :
    ∀ target, Steps p.tables e below (T.setTop { g with pc := g.pc + 1, stack := v :: rest }) target → Steps p.tables e below (T.setTop g) target := by
  obtain ⟨cl, A, V⟩ := Q.arr hi
  intro target k
  exact X.baloadBytes hx (by rw [eT]; exact A.1) (State.isArrayOf_alike hZ.alike A.2.1) A.2.2 (in_of V hj (lt_of hv)) (at_of V hv) hg hs hd _ k
theorem gIst (X : Stand p l e R s m args below meth c T locs cells slots) (hx : p.tables.exec = Jvm.exec) (hZ : Z.Warmed39 s.vm) (eT : T.heap = h) (N : Fr n0 locs) (Q : Rep Z n0 h L) (i : Nat) {a : Addr} {vs : List Value} (hi : L[i]? = some (a, Ar .int vs))
    {j x : Int32} (hj : ¬ j < 0) (k : Nat) (hk : j.toNatClampNeg = k) (hv : k < vs.length) {g : JFrame} (hg : g.method = m) {rest : List Value} (hs : g.stack = .int x :: .int j :: .ref a :: rest) (hd : decode c.code g.pc = .ok (.iastore, 1)) :
    ∃ T' h' locs', Stand p l e R s m args below meth c T' locs' cells slots ∧ T'.heap = h' ∧ Fr n0 locs' ∧ Rep Z n0 h' (L.set i (a, Ar .int (vs.set k (.int x)))) ∧ ∀ target, Steps p.tables e below (T'.setTop { g with pc := g.pc + 1, stack := rest }) target → Steps p.tables e below (T.setTop g) target := by
  obtain ⟨cl, A, V⟩ := Q.arr hi
  subst hk
  obtain ⟨T', h', X', e', W, st⟩ := stI X hx hZ eT A (j := j) (x := x) (in_of V hj hv) hg hs hd
  exact ⟨T', h', _, X', e', Fr.snoc X' N (Q.ge hi), Q.sto hi W rfl, st⟩
theorem gLst (X : Stand p l e R s m args below meth c T locs cells slots) (hx : p.tables.exec = Jvm.exec) (hZ : Z.Warmed39 s.vm) (eT : T.heap = h) (N : Fr n0 locs) (Q : Rep Z n0 h L) (i : Nat) {a : Addr} {vs : List Value} (hi : L[i]? = some (a, Ar .long vs))
    {j : Int32} {x : Int64} (hj : ¬ j < 0) (k : Nat) (hk : j.toNatClampNeg = k) (hv : k < vs.length) {g : JFrame} (hg : g.method = m) {rest : List Value} (hs : g.stack = .long x :: .int j :: .ref a :: rest) (hd : decode c.code g.pc = .ok (.lastore, 1)) :
    ∃ T' h' locs', Stand p l e R s m args below meth c T' locs' cells slots ∧ T'.heap = h' ∧ Fr n0 locs' ∧ Rep Z n0 h' (L.set i (a, Ar .long (vs.set k (.long x)))) ∧ ∀ target, Steps p.tables e below (T'.setTop { g with pc := g.pc + 1, stack := rest }) target → Steps p.tables e below (T.setTop g) target := by
  obtain ⟨cl, A, V⟩ := Q.arr hi
  subst hk
  obtain ⟨T', h', X', e', W, st⟩ := stJ X hx hZ eT A (j := j) (x := x) (in_of V hj hv) hg hs hd
  exact ⟨T', h', _, X', e', Fr.snoc X' N (Q.ge hi), Q.sto hi W rfl, st⟩
theorem gBst (X : Stand p l e R s m args below meth c T locs cells slots) (hx : p.tables.exec = Jvm.exec) (hZ : Z.Warmed39 s.vm) (eT : T.heap = h) (N : Fr n0 locs) (Q : Rep Z n0 h L) (i : Nat) {a : Addr} {vs : List Value} (hi : L[i]? = some (a, Ar .byte vs))
    {j x : Int32} (hj : ¬ j < 0) (k : Nat) (hk : j.toNatClampNeg = k) (hv : k < vs.length) {g : JFrame} (hg : g.method = m) {rest : List Value} (hs : g.stack = .int x :: .int j :: .ref a :: rest) (hd : decode c.code g.pc = .ok (.bastore, 1)) :
    ∃ T' h' locs', Stand p l e R s m args below meth c T' locs' cells slots ∧ T'.heap = h' ∧ Fr n0 locs' ∧ Rep Z n0 h' (L.set i (a, Ar .byte (vs.set k (.int x.toInt8.toInt32)))) ∧ ∀ target, Steps p.tables e below (T'.setTop { g with pc := g.pc + 1, stack := rest }) target → Steps p.tables e below (T.setTop g) target := by
  obtain ⟨cl, A, V⟩ := Q.arr hi
  subst hk
  obtain ⟨T', h', X', e', W, st⟩ := stB X hx hZ eT A (j := j) (x := x) (in_of V hj hv) hg hs hd
  exact ⟨T', h', _, X', e', Fr.snoc X' N (Q.ge hi), Q.sto hi W (fits_nar_byte x), st⟩
theorem gClone (X : Stand p l e R s m args below meth c T locs cells slots) (hx : p.tables.exec = Jvm.exec) (hZ : Z.Warmed39 s.vm) {own ad : String} {index : Nat} (hown : s.vm.findClass own = some m.cls)
    (w1 : (Cond.methodLink own index ⟨ad, "clone", "()Ljava/lang/Object;"⟩).before a0 Z = true) (w2 : (Cond.sameMethod ad "java/lang/Object" "clone" "()Ljava/lang/Object;").before a0 Z = true) (w3 : (Cond.native ⟨"java/lang/Object", "clone", "()Ljava/lang/Object;"⟩).before a0 Z = true)
    (w4 : (Cond.instanceMethod ⟨"java/lang/Object", "clone", "()Ljava/lang/Object;"⟩).before a0 Z = true) (w5 : (Cond.selects ad ⟨ad, "clone", "()Ljava/lang/Object;"⟩ ⟨"java/lang/Object", "clone", "()Ljava/lang/Object;"⟩).before a0 Z = true) (w6 : (Cond.castable ad "java/lang/Cloneable").before a0 Z = true)
    (eT : T.heap = h) (Q : Rep Z n0 h L) (i : Nat) {a : Addr} {ty : FieldType} {vs : List Value} (hi : L[i]? = some (a, Ar ty vs)) (had : "[" ++ ty.toString = ad) {g : JFrame} (hg : g.method = m) (hsize : g.locals.size = c.maxLocals) {rest : List Value} (hs : g.stack = .ref a :: rest) (hd : decode c.code g.pc = .ok (.invokevirtual index, 3))
    (hf : 1 ≤ R.frames) {W : Nat} (cap : Nat) (hW : 2 * g.monitorRoom + (rest.map fun v => v.category).sum ≤ W) (hl : W + 14 ≤ R.locals) (hcap : vs.length ≤ cap) (hc : cells + 1 ≤ R.cells) (hsl : slots + cap ≤ R.slots) :
    ∃ T' h' b, Stand p l e R s m args below meth c T' locs (cells + 1) (slots + cap) ∧ T'.heap = h' ∧ Rep Z n0 h' ((b, Ar ty vs) :: L) ∧ Exa Z h' b ad ∧
      ∀ target, Steps p.tables e below (T'.setTop { g with pc := g.pc + 3, stack := .ref b :: rest }) target → Steps p.tables e below (T.setTop g) target := by
  subst had
  obtain ⟨cl, A, V, F, E⟩ := Q.arr' hi
  have FC : FitC Z cl := fitC_of A fun k hk v hv => F v (by rw [← V]; exact Array.mem_toList_iff.mpr (Array.mem_of_getElem? hv))
  obtain ⟨T', h', X', e', ex, A', E', st⟩ := cloneA X hx hZ hown w1 w2 w3 w4 w5 w6 eT A E FC hg hsize hs hd hf hW hl (by rw [← V, Array.length_toList] at hcap; exact hcap) hc hsl
  exact ⟨T', h', _, X', e', Q.add ex rfl A'.1 ⟨A'.2.1, A'.2.2, V, F, exa_to A'.1 E'⟩, E', st⟩
theorem gCast (X : Stand p l e R s m args below meth c T locs cells slots) (hx : p.tables.exec = Jvm.exec) (hZ : Z.Warmed39 s.vm) {own K : String} {index : Nat} (hown : s.vm.findClass own = some m.cls) (w : (Cond.classLink own index K).before a0 Z = true) (eT : T.heap = h) {a : Addr} (E : Exa Z h a K)
    {g : JFrame} (hg : g.method = m) {rest : List Value} (hs : g.stack = .ref a :: rest) (hd : decode c.code g.pc = .ok (.checkcast index, 3)) : ∃ T', Stand p l e R s m args below meth c T' locs cells slots ∧ T'.heap = h ∧ ∀ target, Steps p.tables e below (T'.setTop { g with pc := g.pc + 3 }) target → Steps p.tables e below (T.setTop g) target :=
  castY X hx hZ hown w eT (Ins.self E) hg hs hd
theorem arv_of {a : Addr} {ty : FieldType} {vs : List Value} {dv : Value} {cl : Cell} (A : Arr Z h a cl ty) (V : cl.slots.toList = vs) (F : ∀ v ∈ vs, fits ty v = true) (hl : vs.length < 2 ^ 31) : Arv Z h a cl.cls ty (Int32.ofNat vs.length) vs dv := by
  have q : (Int32.ofNat vs.length).toNatClampNeg = vs.length := by
    rw [Int32.toNatClampNeg, Int32.toInt_ofNat_of_lt hl]; rfl
  have S : cl.slots.size = vs.length := by rw [← V, Array.length_toList]
  have G : ∀ k, k < cl.slots.size → cl.slots[k]? = some (vs.getD k dv) := fun k hk => by
    rw [← Array.getElem?_toList, V, List.getD_eq_getElem?_getD, List.getElem?_eq_getElem (by omega)]; rfl
  refine ⟨cl, A, rfl, by rw [q, S], ?_, G, fun k hk => ?_⟩
  · rw [Int32.lt_iff_toInt_lt, Int32.toInt_ofNat_of_lt hl, show (0 : Int32).toInt = 0 from rfl]; omega
  · rw [List.getD_eq_getElem?_getD, List.getElem?_eq_getElem (by omega)]
    exact F _ (List.getElem_mem _)
theorem Rep.kept {h' : Heap} {i : Nat} {b : Addr} {P P' : Des} {cb : Cell} (Q : Rep Z n0 h L) (hi : L[i]? = some (b, P)) (K : Keep h h' [b]) (hc : h'[b]? = some cb) (p : P' Z cb) : Rep Z n0 h' (L.set i (b, P')) := by
  have em : (L.set i (b, P')).map (·.1) = L.map (·.1) := by
    rw [List.map_set]
    apply List.ext_getElem?
    intro k
    rw [List.getElem?_set]
    split
    · rename_i e; subst e
      split
      · simp [hi]
      · rename_i e; simp only [List.length_map] at e; simp [List.getElem?_eq_none (Nat.le_of_not_lt e)]
    · rfl
  have il : i < L.length := (List.getElem?_eq_some_iff.mp hi).1
  refine ⟨Nat.le_trans Q.1 K.1, by rw [em]; exact Q.2.1, fun x hx => ?_⟩
  obtain ⟨k, hk⟩ := List.mem_iff_getElem?.mp hx
  rw [List.getElem?_set] at hk
  split at hk
  · rename_i e; subst e
    cases hk
    exact ⟨Q.ge hi, cb, hc, p⟩
  · rename_i e
    obtain ⟨g, c, hc', p'⟩ := Q.2.2 x (List.mem_of_getElem? hk)
    have ne : x.1 ≠ b := fun q => by
      refine e ((List.getElem?_inj (l := L.map (·.1)) (by simpa using il) Q.2.1).mp ?_)
      simp [hi, hk, q]
    exact ⟨g, c, K.2.1 _ _ hc' (by simpa using ne), p'⟩
theorem gCopy (X : Stand p l e R s m args below meth c T locs cells slots) (hx : p.tables.exec = Jvm.exec) (hZ : Z.Warmed39 s.vm) {own : String} {index : Nat} (hown : s.vm.findClass own = some m.cls)
    (w1 : (Cond.methodLink own index Jvm.Stand.acN).before a0 Z = true) (w2 : (Cond.native Jvm.Stand.acN).before a0 Z = true) (w3 : (Cond.static Jvm.Stand.acN).before a0 Z = true) (w4 : (Cond.initialized "java/lang/System").before a0 Z = true) (eT : T.heap = h) (N : Fr n0 locs) (Q : Rep Z n0 h L) (i j : Nat)
    {a b : Addr} {ty : FieldType} {vs vd : List Value} (hi : L[i]? = some (a, Ar ty vs)) (hj : L[j]? = some (b, Ar ty vd)) (hty : refKind ty = false) (l1 : vs.length < 2 ^ 31) (l2 : vd.length < 2 ^ 31) {sp dp nn : Int32} (h1 : ¬ sp < 0) (h2 : ¬ dp < 0) (h3 : ¬ nn < 0) (si di ni : Nat) (es : sp.toNatClampNeg = si) (ed : dp.toNatClampNeg = di) (en : nn.toNatClampNeg = ni)
    (h4 : si + ni ≤ vs.length) (h5 : di + ni ≤ vd.length)
    {g : JFrame} (hg : g.method = m) (hsize : g.locals.size = c.maxLocals) {rest : List Value} (hs : g.stack = .int nn :: .int dp :: .ref b :: .int sp :: .ref a :: rest) (hd : decode c.code g.pc = .ok (.invokestatic index, 3))
    (hf : 1 ≤ R.frames) {W : Nat} (hW : 2 * g.monitorRoom + (rest.map fun v => v.category).sum ≤ W) (hlo : W + (nativeFrameWords "java/lang/System" "arraycopy" 5 + 11) ≤ R.locals) :
    ∃ T' h' L', Stand p l e R s m args below meth c T' L' cells slots ∧ T'.heap = h' ∧ Fr n0 L' ∧ Rep Z n0 h' (L.set j (b, Ar ty (vd.take di ++ (vs.drop si).take ni ++ vd.drop (di + ni)))) ∧
      ∀ target, Steps p.tables e below (T'.setTop { g with pc := g.pc + 3, stack := rest }) target → Steps p.tables e below (T.setTop g) target := by
  subst es ed en
  obtain ⟨ca, A, Va, Fa, Ea⟩ := Q.arr' hi
  obtain ⟨cb, B, Vb, Fb, Eb⟩ := Q.arr' hj
  have za : (Int32.ofNat vs.length).toNatClampNeg = vs.length := by rw [Int32.toNatClampNeg, Int32.toInt_ofNat_of_lt l1]; rfl
  have zb : (Int32.ofNat vd.length).toNatClampNeg = vd.length := by rw [Int32.toNatClampNeg, Int32.toInt_ofNat_of_lt l2]; rfl
  have hus : (vs.drop sp.toNatClampNeg).take nn.toNatClampNeg = (List.range nn.toNatClampNeg).map fun k => vs.getD (sp.toNatClampNeg + k) .null := by
    apply List.ext_getElem?
    intro k
    rw [List.getElem?_take, List.getElem?_drop, List.getElem?_map]
    by_cases q : k < nn.toNatClampNeg
    · rw [if_pos q, List.getElem?_range q, List.getElem?_eq_getElem (by omega)]
      simp [List.getD_eq_getElem?_getD, List.getElem?_eq_getElem (show sp.toNatClampNeg + k < vs.length by omega)]
    · rw [if_neg q, List.getElem?_eq_none (by simpa using q)]; rfl
  obtain ⟨T', h', L', X', e', N', K, ⟨c', A', -, S', -, H', G'⟩, st⟩ := cpA X hx hZ hown w1 w2 w3 w4 eT (arv_of (dv := .null) A Va Fa l1) (arv_of (dv := .null) B Vb Fb l2) (Or.inl ⟨rfl, hty⟩) h1 h2 h3 (by rw [za]; exact h4) (by rw [zb]; exact h5) hus h5 N (Q.ge hj) hg hsize hs hd hf hW hlo
  refine ⟨T', h', L', X', e', N', Q.kept hj K A'.1 ⟨A'.2.1, A'.2.2, ?_, fun v hv => ?_, exa_to A'.1 (Eb.keep K)⟩, st⟩
  · apply List.ext_getElem?
    intro k
    rw [Array.getElem?_toList]
    by_cases q : k < c'.slots.size
    · rw [H' k q, List.getD_eq_getElem?_getD, List.getElem?_eq_getElem]
      · rfl
      · rw [S', zb] at q; simp only [List.length_append, List.length_take, List.length_drop]; omega
    · rw [Array.getElem?_eq_none (by omega), List.getElem?_eq_none]
      rw [S', zb] at q; simp only [List.length_append, List.length_take, List.length_drop]; omega
  · rcases List.mem_append.mp hv with hv | hv
    · rcases List.mem_append.mp hv with hv | hv
      · exact Fb v (List.mem_of_mem_take hv)
      · exact Fa v (List.mem_of_mem_drop (List.mem_of_mem_take hv))
    · exact Fb v (List.mem_of_mem_drop hv)
theorem gMono (X : Stand p l e R s m args below meth c T locs cells slots) {cells' slots' : Nat} (h1 : cells ≤ cells') (h2 : slots ≤ slots') : Stand p l e R s m args below meth c T locs cells' slots' := { X with same := X.same.mono h1 h2 }
theorem retI (X : Stand p l e R s m args below meth c T locs cells slots) (hx : p.tables.exec = Jvm.exec) {pc : Nat} {Ls : Array Slot} {z : Int32} {rest : List Value} (hret : meth.sig.returnType = some .int) (hd : decode c.code pc = .ok (.ireturn, 1)) {fs : List Frame}
    (hl : ∀ (f : JFrame) (acts : List Action), f.method = m → f.locked = none → f.entered = [] → (doReturn e (T.setTop f) acts (some (.int z))).1 = T.setFrames fs) : Steps p.tables e below (T.setTop (mkF m pc Ls (.int z :: rest))) (T.setFrames fs) := by
  have hm' : T.vm.method? m = some meth := X.method'
  have hn : narrow .int (.int z) = .int z := rfl
  show Steps p.tables e below (T.setTop { method := m, pc := pc, locals := Ls, stack := _ :: rest, locked := none }) _
  jvm_step X.here [X.here.top, hx, hd, hm', hret, hn]
  first | (intro acts; rw [hl _ acts rfl rfl rfl]) | rw [hl _ _ rfl rfl rfl]
  exact Steps.refl _
theorem retL (X : Stand p l e R s m args below meth c T locs cells slots) (hx : p.tables.exec = Jvm.exec) {pc : Nat} {Ls : Array Slot} {z : Int64} {rest : List Value} (hret : meth.sig.returnType = some .long) (hd : decode c.code pc = .ok (.lreturn, 1)) {fs : List Frame}
    (hl : ∀ (f : JFrame) (acts : List Action), f.method = m → f.locked = none → f.entered = [] → (doReturn e (T.setTop f) acts (some (.long z))).1 = T.setFrames fs) : Steps p.tables e below (T.setTop (mkF m pc Ls (.long z :: rest))) (T.setFrames fs) := by
  have hm' : T.vm.method? m = some meth := X.method'
  have hn : narrow .long (.long z) = .long z := rfl
  show Steps p.tables e below (T.setTop { method := m, pc := pc, locals := Ls, stack := _ :: rest, locked := none }) _
  jvm_step X.here [X.here.top, hx, hd, hm', hret, hn]
  first | (intro acts; rw [hl _ acts rfl rfl rfl]) | rw [hl _ _ rfl rfl rfl]
  exact Steps.refl _
theorem retA (X : Stand p l e R s m args below meth c T locs cells slots) (hx : p.tables.exec = Jvm.exec) {pc : Nat} {Ls : Array Slot} {a : Addr} {rest : List Value} {t : FieldType} (ht : t.isReference = true) (hret : meth.sig.returnType = some t) (hd : decode c.code pc = .ok (.areturn, 1)) {fs : List Frame}
    (hl : ∀ (f : JFrame) (acts : List Action), f.method = m → f.locked = none → f.entered = [] → (doReturn e (T.setTop f) acts (some (.ref a))).1 = T.setFrames fs) : Steps p.tables e below (T.setTop (mkF m pc Ls (.ref a :: rest))) (T.setFrames fs) := by
  have hm' : T.vm.method? m = some meth := X.method'
  show Steps p.tables e below (T.setTop { method := m, pc := pc, locals := Ls, stack := _ :: rest, locked := none }) _
  jvm_step X.here [X.here.top, hx, hd, hm', hret, ht, Value.isRef]
  first | (intro acts; rw [hl _ acts rfl rfl rfl]) | rw [hl _ _ rfl rfl rfl]
  exact Steps.refl _
end Steps
abbrev iushr (x y : Int32) : Int32 := (x.toUInt32 >>> (y &&& 31).toUInt32).toInt32
abbrev lushr (x : Int64) (y : Int32) : Int64 := (x.toUInt64 >>> (y &&& 0x3f).toInt64.toUInt64).toInt64
abbrev ishl (x y : Int32) : Int32 := x <<< (y &&& 31)
abbrev ishr (x y : Int32) : Int32 := x >>> (y &&& 31)
abbrev lshl (x : Int64) (y : Int32) : Int64 := x <<< (y &&& 0x3f).toInt64
abbrev lshr (x : Int64) (y : Int32) : Int64 := x >>> (y &&& 0x3f).toInt64
/-- a boolean told by a condition, as an int of the machine's -/
abbrev bz (P : Prop) [Decidable P] : Int32 := if P then 1 else 0
theorem nar_b (P : Prop) [Decidable P] : nar .boolean (bz P) = bz P := by unfold bz; split <;> rfl
theorem bz_t {P : Prop} [Decidable P] (h : P) : bz P = 1 := if_pos h
theorem bz_congr {P Q : Prop} [Decidable P] [Decidable Q] (h : P ↔ Q) : bz P = bz Q := by
  by_cases q : Q
  · rw [bz, bz, if_pos q, if_pos (h.mpr q)]
  · rw [bz, bz, if_neg q, if_neg (fun p => q (h.mp p))]
theorem bz_one {P : Prop} [Decidable P] (h : P ↔ True) : bz P = 1 := if_pos (h.mpr trivial)
theorem bz_zero {P : Prop} [Decidable P] (h : P ↔ False) : bz P = 0 := if_neg h.mp
theorem ow_bne_t {P : Prop} [Decidable P] (h : P) : ifCond.holds .ne (bz P) = true := by rw [if0, bz_t h]; decide
theorem ow_bne_f {P : Prop} [Decidable P] (h : ¬ P) : ifCond.holds .ne (bz P) = false := by rw [if0, bz, if_neg h]; decide
theorem ow_beq_t {P : Prop} [Decidable P] (h : ¬ P) : ifCond.holds .eq (bz P) = true := by rw [if0, bz, if_neg h]; decide
theorem ow_beq_f {P : Prop} [Decidable P] (h : P) : ifCond.holds .eq (bz P) = false := by rw [if0, bz_t h]; decide
theorem bz_f {P : Prop} [Decidable P] (h : ¬ P) : bz P = 0 := if_neg h
theorem ite_or_t {α : Type} {c d : Prop} [Decidable c] [Decidable d] {a y : α} (h : c) : (if c ∨ d then a else y) = a := if_pos (Or.inl h)
theorem ite_or_f {α : Type} {c d : Prop} [Decidable c] [Decidable d] {a y : α} (h : ¬ c) : (if c ∨ d then a else y) = (if d then a else y) := by
  by_cases q : d
  · rw [if_pos q, if_pos (Or.inr q)]
  · rw [if_neg q, if_neg (fun z => z.elim h q)]
theorem ite_and_t {α : Type} {c d : Prop} [Decidable c] [Decidable d] {a y : α} (h : c) : (if c ∧ d then a else y) = (if d then a else y) := by
  by_cases q : d
  · rw [if_pos q, if_pos ⟨h, q⟩]
  · rw [if_neg q, if_neg (fun z => q z.2)]
theorem ite_and_f {α : Type} {c d : Prop} [Decidable c] [Decidable d] {a y : α} (h : ¬ c) : (if c ∧ d then a else y) = y := if_neg fun q => h q.1
theorem ow_fin {P : Prop} [Decidable P] (h : P) : some (Value.int (nar .boolean (bz P))) = some (Value.int (1 : Int32)) := by rw [bz_t h]; rfl
theorem ow_fin' {P : Prop} [Decidable P] (h : P) : some (Value.int (bz P)) = some (Value.int (1 : Int32)) := by rw [bz_t h]
end Jvm.Own
namespace Jvm.Own
open Jvm Jvm.RoadKit
/-! ## Longs and ints as natural numbers -/
def nj (x : Int64) : Nat := x.toBitVec.toNat
def ni (x : Int32) : Nat := x.toBitVec.toNat
theorem nj_lt (x : Int64) : nj x < 18446744073709551616 := x.toBitVec.isLt
theorem ni_lt (x : Int32) : ni x < 4294967296 := x.toBitVec.isLt
theorem nj_inj {x y : Int64} (h : nj x = nj y) : x = y := Int64.toBitVec_inj.mp (BitVec.eq_of_toNat_eq h)
theorem ni_inj {x y : Int32} (h : ni x = ni y) : x = y := Int32.toBitVec_inj.mp (BitVec.eq_of_toNat_eq h)
theorem nj_int (x : Int64) : x.toInt = if nj x < 9223372036854775808 then (nj x : Int) else (nj x : Int) - 18446744073709551616 := by
  show x.toBitVec.toInt = _
  rw [BitVec.toInt_eq_toNat_cond]
  show (if 2 * nj x < 2 ^ 64 then (nj x : Int) else (nj x : Int) - (2 ^ 64 : Nat)) = _
  split <;> split <;> omega
theorem ni_int (x : Int32) : x.toInt = if ni x < 2147483648 then (ni x : Int) else (ni x : Int) - 4294967296 := by
  show x.toBitVec.toInt = _
  rw [BitVec.toInt_eq_toNat_cond]
  show (if 2 * ni x < 2 ^ 32 then (ni x : Int) else (ni x : Int) - (2 ^ 32 : Nat)) = _
  split <;> split <;> omega
theorem nj_and (x y : Int64) : nj (x &&& y) = nj x &&& nj y := by show (x.toBitVec &&& y.toBitVec).toNat = _; rw [BitVec.toNat_and]; rfl
theorem nj_or (x y : Int64) : nj (x ||| y) = nj x ||| nj y := by show (x.toBitVec ||| y.toBitVec).toNat = _; rw [BitVec.toNat_or]; rfl
theorem nj_xor (x y : Int64) : nj (x ^^^ y) = nj x ^^^ nj y := by show (x.toBitVec ^^^ y.toBitVec).toNat = _; rw [BitVec.toNat_xor]; rfl
theorem nj_add (x y : Int64) : nj (x + y) = (nj x + nj y) % 18446744073709551616 := by show (x.toBitVec + y.toBitVec).toNat = _; rw [BitVec.toNat_add]; rfl
theorem nj_sub (x y : Int64) : nj (x - y) = (18446744073709551616 - nj y + nj x) % 18446744073709551616 := by show (x.toBitVec - y.toBitVec).toNat = _; rw [BitVec.toNat_sub]; rfl
theorem ni_and (x y : Int32) : ni (x &&& y) = ni x &&& ni y := by show (x.toBitVec &&& y.toBitVec).toNat = _; rw [BitVec.toNat_and]; rfl
theorem nj_lushr (x : Int64) (q : Int32) (k : Nat) (hk : ni q % 64 = k) : nj (lushr x q) = nj x / 2 ^ k := by
  show (x.toBitVec >>> ((q &&& 0x3f).toInt64.toBitVec % 64)).toNat = x.toBitVec.toNat / 2 ^ k
  have h5 := (sm64 q k hk).2
  rw [BitVec.ushiftRight_eq', BitVec.toNat_ushiftRight, Nat.shiftRight_eq_div_pow, BitVec.toNat_umod, (sm64 q k hk).1, BitVec.toNat_ofNat]; congr 2; show k % 2 ^ 64 % 64 = k; omega
theorem nj_lshl (x : Int64) (q : Int32) (k : Nat) (hk : ni q % 64 = k) : nj (lshl x q) = nj x * 2 ^ k % 18446744073709551616 := by
  show (x.toBitVec <<< ((q &&& 0x3f).toInt64.toBitVec.smod 64)).toNat = _
  rw [BitVec.shiftLeft_eq', (sm64 q k hk).1, smod64 k (sm64 q k hk).2, BitVec.toNat_shiftLeft, Nat.shiftLeft_eq]; rfl
theorem ni_l2i (x : Int64) : ni x.toInt32 = nj x % 4294967296 := by
  show (x.toBitVec.signExtend 32).toNat = _
  rw [BitVec.signExtend_eq_setWidth_of_le _ (by decide), BitVec.toNat_setWidth]; rfl
theorem nj_i2l (x : Int32) (h : ni x < 2147483648) : nj x.toInt64 = ni x := by
  have e := nj_int x.toInt64
  rw [Int32.toInt_toInt64, ni_int, if_pos h] at e
  have := nj_lt x.toInt64
  split at e <;> omega
theorem mask_n (x k : Nat) : x &&& (2 ^ k - 1) = x % 2 ^ k := Nat.and_two_pow_sub_one_eq_mod x k
theorem lt64 {x y : Int64} : x < y ↔ x.toInt < y.toInt := Int64.lt_iff_toInt_lt
theorem lt32 {x y : Int32} : x < y ↔ x.toInt < y.toInt := Int32.lt_iff_toInt_lt
/-- the byte at place k of a long, as javac reads it into an int -/
theorem byteI (w : Int64) (q : Int32) (k : Nat) (hk : ni q % 64 = k) : ((lushr w q).toInt32 &&& (255 : Int32)) = Int32.ofNat (nj w / 2 ^ k % 256) := by
  apply ni_inj
  rw [ni_and, ni_l2i, nj_lushr w q k hk, show ni (255 : Int32) = 2 ^ 8 - 1 from rfl, mask_n]
  show _ = (BitVec.ofNat 32 _).toNat
  rw [BitVec.toNat_ofNat]
  omega
theorem byteJ (w : Int64) (q : Int32) (k : Nat) (hk : ni q % 64 = k) : ((lushr w q) &&& (255 : Int64)) = Int64.ofNat (nj w / 2 ^ k % 256) := by
  apply nj_inj
  rw [nj_and, nj_lushr w q k hk, show nj (255 : Int64) = 2 ^ 8 - 1 from rfl, mask_n]
  show _ = (BitVec.ofNat 64 _).toNat
  rw [BitVec.toNat_ofNat]
  omega
theorem all8 {P : Int8 → Prop} (h : ∀ n : Fin 256, P (Int8.ofNat n.1)) (y : Int8) : P y := by
  have q := h ⟨y.toBitVec.toNat, y.toBitVec.isLt⟩
  have e : Int8.ofNat y.toBitVec.toNat = y := by
    apply Int8.toBitVec_inj.mp
    show BitVec.ofNat 8 y.toBitVec.toNat = y.toBitVec
    rw [BitVec.ofNat_toNat]; simp
  rw [e] at q; exact q
/-- an int told by its natural number -/
theorem ofni (x : Int32) : Int32.ofNat (ni x) = x := by
  apply ni_inj
  show (BitVec.ofNat 32 x.toBitVec.toNat).toNat = x.toBitVec.toNat
  rw [BitVec.toNat_ofNat, Nat.mod_eq_of_lt x.toBitVec.isLt]
/-- (x & 0x7fffffff) % m for a small m -/
theorem remN (x : Int32) (m : Int32) (k : Nat) (hm : ni m = k) (h0 : 0 < k) (h1 : k < 2147483648) : ∃ n : Nat, n < k ∧ ((x &&& (2147483647 : Int32)) % m) = Int32.ofNat n := by
  have e1 : ni (x &&& (2147483647 : Int32)) = ni x % 2147483648 := by rw [ni_and, show ni (2147483647 : Int32) = 2 ^ 31 - 1 from rfl, mask_n]
  have m1 : m.toInt = k := by rw [ni_int, if_pos (by omega), hm]
  have a1 : (x &&& (2147483647 : Int32)).toInt = (ni x % 2147483648 : Nat) := by rw [ni_int, if_pos (by omega), e1]
  obtain ⟨p, -⟩ := c_irem (x &&& (2147483647 : Int32)) m k m1
  have r := p (by omega)
  refine ⟨ni x % 2147483648 % k, Nat.mod_lt _ h0, ?_⟩
  have q : ni x % 2147483648 % k < k := Nat.mod_lt _ h0
  apply Int32.toInt_inj.mp
  rw [r, a1, Int32.toInt_ofNat_of_lt (by omega)]; rfl
end Jvm.Own
namespace Jvm.Pilot.@@N@@
open Jvm Jvm.ClassFile Sem Op Lib Jvm.Free Jvm.Stand Jvm.LawKit Jvm.RoadKit Bundle Jvm.Own Jvm.Pilot.@@N@@.Jvm.D
theorem d1_0 : decode prog_32_method_3_code 0 = .ok (.iload_n 0, 1) := by decide +kernel
theorem d1_1 : decode prog_32_method_3_code 1 = .ok (.sipush 128, 3) := by decide +kernel
theorem d1_4 : decode prog_32_method_3_code 4 = .ok (.if_icmp .ge 45, 3) := by decide +kernel
theorem d1_7 : decode prog_32_method_3_code 7 = .ok (.iload_n 0, 1) := by decide +kernel
theorem d1_8 : decode prog_32_method_3_code 8 = .ok (.bipush 97, 2) := by decide +kernel
theorem d1_10 : decode prog_32_method_3_code 10 = .ok (.if_icmp .lt 9, 3) := by decide +kernel
theorem d1_19 : decode prog_32_method_3_code 19 = .ok (.iload_n 0, 1) := by decide +kernel
theorem d1_20 : decode prog_32_method_3_code 20 = .ok (.bipush 65, 2) := by decide +kernel
theorem d1_22 : decode prog_32_method_3_code 22 = .ok (.if_icmp .lt 9, 3) := by decide +kernel
theorem d1_31 : decode prog_32_method_3_code 31 = .ok (.iload_n 0, 1) := by decide +kernel
theorem d1_32 : decode prog_32_method_3_code 32 = .ok (.bipush 95, 2) := by decide +kernel
theorem d1_34 : decode prog_32_method_3_code 34 = .ok (.if_icmp .eq 9, 3) := by decide +kernel
theorem d1_43 : decode prog_32_method_3_code 43 = .ok (.iconst 1, 1) := by decide +kernel
theorem d1_44 : decode prog_32_method_3_code 44 = .ok (.goto 4, 3) := by decide +kernel
theorem d1_37 : decode prog_32_method_3_code 37 = .ok (.iload_n 0, 1) := by decide +kernel
theorem d1_38 : decode prog_32_method_3_code 38 = .ok (.bipush 58, 2) := by decide +kernel
theorem d1_40 : decode prog_32_method_3_code 40 = .ok (.if_icmp .ne 7, 3) := by decide +kernel
theorem d1_47 : decode prog_32_method_3_code 47 = .ok (.iconst 0, 1) := by decide +kernel
theorem d1_25 : decode prog_32_method_3_code 25 = .ok (.iload_n 0, 1) := by decide +kernel
theorem d1_26 : decode prog_32_method_3_code 26 = .ok (.bipush 90, 2) := by decide +kernel
theorem d1_28 : decode prog_32_method_3_code 28 = .ok (.if_icmp .le 15, 3) := by decide +kernel
theorem d1_13 : decode prog_32_method_3_code 13 = .ok (.iload_n 0, 1) := by decide +kernel
theorem d1_14 : decode prog_32_method_3_code 14 = .ok (.bipush 122, 2) := by decide +kernel
theorem d1_16 : decode prog_32_method_3_code 16 = .ok (.if_icmp .le 27, 3) := by decide +kernel
theorem d1_49 : decode prog_32_method_3_code 49 = .ok (.iload_n 0, 1) := by decide +kernel
theorem d1_50 : decode prog_32_method_3_code 50 = .ok (.sipush 192, 3) := by decide +kernel
theorem d1_53 : decode prog_32_method_3_code 53 = .ok (.if_icmp .lt 10, 3) := by decide +kernel
theorem d1_63 : decode prog_32_method_3_code 63 = .ok (.iload_n 0, 1) := by decide +kernel
theorem d1_64 : decode prog_32_method_3_code 64 = .ok (.sipush 216, 3) := by decide +kernel
theorem d1_67 : decode prog_32_method_3_code 67 = .ok (.if_icmp .lt 10, 3) := by decide +kernel
theorem d1_77 : decode prog_32_method_3_code 77 = .ok (.iload_n 0, 1) := by decide +kernel
theorem d1_78 : decode prog_32_method_3_code 78 = .ok (.sipush 248, 3) := by decide +kernel
theorem d1_81 : decode prog_32_method_3_code 81 = .ok (.if_icmp .lt 10, 3) := by decide +kernel
theorem d1_91 : decode prog_32_method_3_code 91 = .ok (.iload_n 0, 1) := by decide +kernel
theorem d1_92 : decode prog_32_method_3_code 92 = .ok (.sipush 880, 3) := by decide +kernel
theorem d1_95 : decode prog_32_method_3_code 95 = .ok (.if_icmp .lt 10, 3) := by decide +kernel
theorem d1_105 : decode prog_32_method_3_code 105 = .ok (.iload_n 0, 1) := by decide +kernel
theorem d1_106 : decode prog_32_method_3_code 106 = .ok (.sipush 895, 3) := by decide +kernel
theorem d1_109 : decode prog_32_method_3_code 109 = .ok (.if_icmp .lt 10, 3) := by decide +kernel
theorem d1_119 : decode prog_32_method_3_code 119 = .ok (.iload_n 0, 1) := by decide +kernel
theorem d1_120 : decode prog_32_method_3_code 120 = .ok (.sipush 8204, 3) := by decide +kernel
theorem d1_123 : decode prog_32_method_3_code 123 = .ok (.if_icmp .eq 87, 3) := by decide +kernel
theorem d1_210 : decode prog_32_method_3_code 210 = .ok (.iconst 1, 1) := by decide +kernel
theorem d1_211 : decode prog_32_method_3_code 211 = .ok (.goto 4, 3) := by decide +kernel
theorem d1_126 : decode prog_32_method_3_code 126 = .ok (.iload_n 0, 1) := by decide +kernel
theorem d1_127 : decode prog_32_method_3_code 127 = .ok (.sipush 8205, 3) := by decide +kernel
theorem d1_130 : decode prog_32_method_3_code 130 = .ok (.if_icmp .eq 80, 3) := by decide +kernel
theorem d1_133 : decode prog_32_method_3_code 133 = .ok (.iload_n 0, 1) := by decide +kernel
theorem d1_134 : decode prog_32_method_3_code 134 = .ok (.sipush 8304, 3) := by decide +kernel
theorem d1_137 : decode prog_32_method_3_code 137 = .ok (.if_icmp .lt 10, 3) := by decide +kernel
theorem d1_147 : decode prog_32_method_3_code 147 = .ok (.iload_n 0, 1) := by decide +kernel
theorem d1_148 : decode prog_32_method_3_code 148 = .ok (.sipush 11264, 3) := by decide +kernel
theorem d1_151 : decode prog_32_method_3_code 151 = .ok (.if_icmp .lt 10, 3) := by decide +kernel
theorem d1_161 : decode prog_32_method_3_code 161 = .ok (.iload_n 0, 1) := by decide +kernel
theorem d1_162 : decode prog_32_method_3_code 162 = .ok (.sipush 12289, 3) := by decide +kernel
theorem d1_165 : decode prog_32_method_3_code 165 = .ok (.if_icmp .lt 9, 3) := by decide +kernel
theorem d1_174 : decode prog_32_method_3_code 174 = .ok (.iload_n 0, 1) := by decide +kernel
theorem d1_175 : decode prog_32_method_3_code 175 = .ok (.ldc 12, 2) := by decide +kernel
theorem d1_177 : decode prog_32_method_3_code 177 = .ok (.if_icmp .lt 9, 3) := by decide +kernel
theorem d1_186 : decode prog_32_method_3_code 186 = .ok (.iload_n 0, 1) := by decide +kernel
theorem d1_187 : decode prog_32_method_3_code 187 = .ok (.ldc 14, 2) := by decide +kernel
theorem d1_189 : decode prog_32_method_3_code 189 = .ok (.if_icmp .lt 9, 3) := by decide +kernel
theorem d1_198 : decode prog_32_method_3_code 198 = .ok (.iload_n 0, 1) := by decide +kernel
theorem d1_199 : decode prog_32_method_3_code 199 = .ok (.ldc 10, 2) := by decide +kernel
theorem d1_201 : decode prog_32_method_3_code 201 = .ok (.if_icmp .lt 13, 3) := by decide +kernel
theorem d1_214 : decode prog_32_method_3_code 214 = .ok (.iconst 0, 1) := by decide +kernel
theorem d1_204 : decode prog_32_method_3_code 204 = .ok (.iload_n 0, 1) := by decide +kernel
theorem d1_205 : decode prog_32_method_3_code 205 = .ok (.ldc 15, 2) := by decide +kernel
theorem d1_207 : decode prog_32_method_3_code 207 = .ok (.if_icmp .gt 7, 3) := by decide +kernel
theorem d1_192 : decode prog_32_method_3_code 192 = .ok (.iload_n 0, 1) := by decide +kernel
theorem d1_193 : decode prog_32_method_3_code 193 = .ok (.ldc 9, 2) := by decide +kernel
theorem d1_195 : decode prog_32_method_3_code 195 = .ok (.if_icmp .le 15, 3) := by decide +kernel
theorem d1_180 : decode prog_32_method_3_code 180 = .ok (.iload_n 0, 1) := by decide +kernel
theorem d1_181 : decode prog_32_method_3_code 181 = .ok (.ldc 13, 2) := by decide +kernel
theorem d1_183 : decode prog_32_method_3_code 183 = .ok (.if_icmp .le 27, 3) := by decide +kernel
theorem d1_168 : decode prog_32_method_3_code 168 = .ok (.iload_n 0, 1) := by decide +kernel
theorem d1_169 : decode prog_32_method_3_code 169 = .ok (.ldc 7, 2) := by decide +kernel
theorem d1_171 : decode prog_32_method_3_code 171 = .ok (.if_icmp .le 39, 3) := by decide +kernel
theorem d1_154 : decode prog_32_method_3_code 154 = .ok (.iload_n 0, 1) := by decide +kernel
theorem d1_155 : decode prog_32_method_3_code 155 = .ok (.sipush 12271, 3) := by decide +kernel
theorem d1_158 : decode prog_32_method_3_code 158 = .ok (.if_icmp .le 52, 3) := by decide +kernel
theorem d1_140 : decode prog_32_method_3_code 140 = .ok (.iload_n 0, 1) := by decide +kernel
theorem d1_141 : decode prog_32_method_3_code 141 = .ok (.sipush 8591, 3) := by decide +kernel
theorem d1_144 : decode prog_32_method_3_code 144 = .ok (.if_icmp .le 66, 3) := by decide +kernel
theorem d1_112 : decode prog_32_method_3_code 112 = .ok (.iload_n 0, 1) := by decide +kernel
theorem d1_113 : decode prog_32_method_3_code 113 = .ok (.sipush 8191, 3) := by decide +kernel
theorem d1_116 : decode prog_32_method_3_code 116 = .ok (.if_icmp .le 94, 3) := by decide +kernel
theorem d1_98 : decode prog_32_method_3_code 98 = .ok (.iload_n 0, 1) := by decide +kernel
theorem d1_99 : decode prog_32_method_3_code 99 = .ok (.sipush 893, 3) := by decide +kernel
theorem d1_102 : decode prog_32_method_3_code 102 = .ok (.if_icmp .le 108, 3) := by decide +kernel
theorem d1_84 : decode prog_32_method_3_code 84 = .ok (.iload_n 0, 1) := by decide +kernel
theorem d1_85 : decode prog_32_method_3_code 85 = .ok (.sipush 767, 3) := by decide +kernel
theorem d1_88 : decode prog_32_method_3_code 88 = .ok (.if_icmp .le 122, 3) := by decide +kernel
theorem d1_70 : decode prog_32_method_3_code 70 = .ok (.iload_n 0, 1) := by decide +kernel
theorem d1_71 : decode prog_32_method_3_code 71 = .ok (.sipush 246, 3) := by decide +kernel
theorem d1_74 : decode prog_32_method_3_code 74 = .ok (.if_icmp .le 136, 3) := by decide +kernel
theorem d1_56 : decode prog_32_method_3_code 56 = .ok (.iload_n 0, 1) := by decide +kernel
theorem d1_57 : decode prog_32_method_3_code 57 = .ok (.sipush 214, 3) := by decide +kernel
theorem d1_60 : decode prog_32_method_3_code 60 = .ok (.if_icmp .le 150, 3) := by decide +kernel
theorem d1_48 : decode prog_32_method_3_code 48 = .ok (.ireturn, 1) := by decide +kernel
theorem d1_215 : decode prog_32_method_3_code 215 = .ok (.ireturn, 1) := by decide +kernel
theorem pn_com_example_taggen_taggen_XmlChars : plainName "com/example/taggen/taggen/XmlChars" = true := by first | (simp [plainName, overriddenIn]; done) | decide +kernel
theorem ef_1 (m : MethodId) (x0 : Int32) : entryFrame m #[(.int x0)] 1 = mkF m 0 #[.val (.int x0)] [] := by first | (simp [entryFrame, mkF, argsToLocals, Value.category]; done) | rfl
def F1 (cx : Int32) : Int32 :=
  (bz (if cx < (128 : Int32) then (((¬ (cx < (97 : Int32))) ∧ (¬ ((122 : Int32) < cx))) ∨ (((¬ (cx < (65 : Int32))) ∧ (¬ ((90 : Int32) < cx))) ∨ ((cx = (95 : Int32)) ∨ (cx = (58 : Int32))))) else (((¬ (cx < (192 : Int32))) ∧ (¬ ((214 : Int32) < cx))) ∨ (((¬ (cx < (216 : Int32))) ∧ (¬ ((246 : Int32) < cx))) ∨ (((¬ (cx < (248 : Int32))) ∧ (¬ ((767 : Int32) < cx))) ∨ (((¬ (cx < (880 : Int32))) ∧ (¬ ((893 : Int32) < cx))) ∨ (((¬ (cx < (895 : Int32))) ∧ (¬ ((8191 : Int32) < cx))) ∨ ((cx = (8204 : Int32)) ∨ ((cx = (8205 : Int32)) ∨ (((¬ (cx < (8304 : Int32))) ∧ (¬ ((8591 : Int32) < cx))) ∨ (((¬ (cx < (11264 : Int32))) ∧ (¬ ((12271 : Int32) < cx))) ∨ (((¬ (cx < (12289 : Int32))) ∧ (¬ ((55295 : Int32) < cx))) ∨ (((¬ (cx < (63744 : Int32))) ∧ (¬ ((64975 : Int32) < cx))) ∨ (((¬ (cx < (65008 : Int32))) ∧ (¬ ((65533 : Int32) < cx))) ∨ ((¬ (cx < (65536 : Int32))) ∧ (¬ ((983039 : Int32) < cx)))))))))))))))))
def Q1 (Z : State) (cx : Int32) (n0 : Nat) (Rst : RL) (v : Option Value) (h : Heap) (L : List Loc) : Prop := v = some (.int (F1 cx)) ∧ Fr n0 L ∧ Rep Z n0 h (Rst)
set_option maxRecDepth 65536 in
set_option maxHeartbeats 40000000 in
theorem rm1 (l : Launch) (Z : State) (a0 : Array Value) (hw : ∀ d ∈ tables_1, d.before a0 Z = true) (ws : List Jvm.Cond) (cx : Int32) (h0 : Heap) (n0 : Nat) (Rst : RL) (R0 : Rep Z n0 h0 (Rst)) :
    MetFree l (⟨"com/example/taggen/taggen/XmlChars", "isNameStartChar", "(I)Z"⟩ : MethodName) (head1 (Jvm.Cond.code (⟨"com/example/taggen/taggen/XmlChars", "isNameStartChar", "(I)Z"⟩ : MethodName) prog_32_method_3_code 1 (some .boolean) :: ws) ({ frames := 0, cells := 0, slots := 0, locals := 0 } : Room)) (fun a U => a = #[(.int cx)] ∧ Z.Warmed39 U.vm ∧ U.heap = h0) (fun _ _ _ _ _ => True) (fun _ U o U' => ∃ v L, o = .returned v ∧ Q1 Z cx n0 Rst v U'.heap L ∧ FrameEnd U o U' L ({ frames := 0, cells := 0, slots := 0, locals := 0 } : Room).cells ({ frames := 0, cells := 0, slots := 0, locals := 0 } : Room).slots) := by
  refine MetFree.of_bodySF (plainFor_of_name pn_com_example_taggen_taggen_XmlChars) hisR ?_
  intro p e s m args below meth c s₁ Bd hml0 hP hK
  obtain ⟨rfl, hZ, hh⟩ := hP
  have hx := Bd.exec
  have hby := Bd.bytes
  have hml : c.maxLocals = 1 := hml0
  have hown : s.vm.findClass "com/example/taggen/taggen/XmlChars" = some m.cls := findClass_of_methodNamed Bd.named
  have hnm := (name_of_methodNamed Bd.named Bd.method).1
  have X0 : Stand p l e ({ frames := 0, cells := 0, slots := 0, locals := 0 } : Room) s m #[(.int cx)] below meth c s₁ [] 0 0 := Stand.of_body Bd
  have e0 : s₁.heap = h0 := by rw [← hh, Bd.state]; rfl
  have N0 := Fr.nil n0
  have pre0 : ∀ t, Steps p.tables e below (s₁.setTop (mkF m 0 #[.val (.int cx)] [])) t → Steps p.tables e below (s₁.setTop (entryFrame m #[(.int cx)] 1)) t := fun t k => castTop (ef_1 m cx) k
  have pre1 : ∀ t, Steps p.tables e below (s₁.setTop (mkF m 4 #[.val (.int cx)] [(.int (128 : Int32)), (.int cx)])) t → Steps p.tables e below (s₁.setTop (entryFrame m #[(.int cx)] 1)) t := fun t k => pre0 t (by
    show Steps p.tables e below (s₁.setTop (mkF m 0 #[.val (.int cx)] [])) _
    refine XS.iloadN X0.here hx rfl (hb hby d1_0) rfl ?_
    refine XS.sipush X0.here hx rfl (hb hby d1_1) ?_
    exact k)
  have tl7 : ∀ fs, (∀ (f : JFrame) (acts : List Action), f.method = m → f.locked = none → f.entered = [] → (doReturn e (s₁.setTop f) acts (some (.int (bz (cx = (58 : Int32)))))).1 = s₁.setFrames fs) → Steps p.tables e below (s₁.setTop (mkF m 40 #[.val (.int cx)] [(.int (58 : Int32)), (.int cx)])) (s₁.setFrames fs) := fun fs k => by
    by_cases hb6 : cx = (58 : Int32)
    · refine XS.icmpNo X0.here hx rfl (hb hby d1_40) rfl (teq hb6).2 ?_
      rw [bz_one (P := (cx = (58 : Int32))) (iff_true_intro hb6)] at k
      show Steps p.tables e below (s₁.setTop (mkF m 43 #[.val (.int cx)] [])) _
      refine XS.iconst X0.here hx rfl (hb hby d1_43) ?_
      refine XS.goto X0.here hx rfl (pc0 := 44) (pc' := 48) rfl (hb hby d1_44) (by decide) (by decide) ?_
      exact retN X0 hx (t := .boolean) Bd.returns (by simp) (hb hby d1_48) k
    · refine XS.icmpYes X0.here hx rfl (pc0 := 40) (pc' := 47) rfl (hb hby d1_40) rfl (feq hb6).2 (by decide) (by decide) ?_
      rw [bz_zero (P := (cx = (58 : Int32))) (iff_false_intro hb6)] at k
      show Steps p.tables e below (s₁.setTop (mkF m 47 #[.val (.int cx)] [])) _
      refine XS.iconst X0.here hx rfl (hb hby d1_47) ?_
      exact retN X0 hx (t := .boolean) Bd.returns (by simp) (hb hby d1_48) k
  have tl8 : ∀ fs, (∀ (f : JFrame) (acts : List Action), f.method = m → f.locked = none → f.entered = [] → (doReturn e (s₁.setTop f) acts (some (.int (bz ((cx = (95 : Int32)) ∨ (cx = (58 : Int32))))))).1 = s₁.setFrames fs) → Steps p.tables e below (s₁.setTop (mkF m 34 #[.val (.int cx)] [(.int (95 : Int32)), (.int cx)])) (s₁.setFrames fs) := fun fs k => by
    by_cases hb5 : cx = (95 : Int32)
    · refine XS.icmpYes X0.here hx rfl (pc0 := 34) (pc' := 43) rfl (hb hby d1_34) rfl (teq hb5).1 (by decide) (by decide) ?_
      rw [bz_one (P := ((cx = (95 : Int32)) ∨ (cx = (58 : Int32)))) (iff_true_intro (Or.inl hb5))] at k
      show Steps p.tables e below (s₁.setTop (mkF m 43 #[.val (.int cx)] [])) _
      refine XS.iconst X0.here hx rfl (hb hby d1_43) ?_
      refine XS.goto X0.here hx rfl (pc0 := 44) (pc' := 48) rfl (hb hby d1_44) (by decide) (by decide) ?_
      exact retN X0 hx (t := .boolean) Bd.returns (by simp) (hb hby d1_48) k
    · refine XS.icmpNo X0.here hx rfl (hb hby d1_34) rfl (feq hb5).1 ?_
      rw [bz_congr (P := ((cx = (95 : Int32)) ∨ (cx = (58 : Int32)))) (Q := (cx = (58 : Int32))) (or_iff_right hb5)] at k
      show Steps p.tables e below (s₁.setTop (mkF m 37 #[.val (.int cx)] [])) _
      refine XS.iloadN X0.here hx rfl (hb hby d1_37) rfl ?_
      refine XS.bipush X0.here hx rfl (hb hby d1_38) ?_
      exact tl7 fs k
  have tl10 : ∀ fs, (∀ (f : JFrame) (acts : List Action), f.method = m → f.locked = none → f.entered = [] → (doReturn e (s₁.setTop f) acts (some (.int (bz ((¬ ((90 : Int32) < cx)) ∨ ((cx = (95 : Int32)) ∨ (cx = (58 : Int32)))))))).1 = s₁.setFrames fs) → Steps p.tables e below (s₁.setTop (mkF m 28 #[.val (.int cx)] [(.int (90 : Int32)), (.int cx)])) (s₁.setFrames fs) := fun fs k => by
    by_cases hb9 : (90 : Int32) < cx
    · refine XS.icmpNo X0.here hx rfl (hb hby d1_28) rfl (tlt hb9).2.2.2 ?_
      rw [bz_congr (P := ((¬ ((90 : Int32) < cx)) ∨ ((cx = (95 : Int32)) ∨ (cx = (58 : Int32))))) (Q := ((cx = (95 : Int32)) ∨ (cx = (58 : Int32)))) (or_iff_right (not_not_intro hb9))] at k
      show Steps p.tables e below (s₁.setTop (mkF m 31 #[.val (.int cx)] [])) _
      refine XS.iloadN X0.here hx rfl (hb hby d1_31) rfl ?_
      refine XS.bipush X0.here hx rfl (hb hby d1_32) ?_
      exact tl8 fs k
    · refine XS.icmpYes X0.here hx rfl (pc0 := 28) (pc' := 43) rfl (hb hby d1_28) rfl (flt hb9).2.2.2 (by decide) (by decide) ?_
      rw [bz_one (P := ((¬ ((90 : Int32) < cx)) ∨ ((cx = (95 : Int32)) ∨ (cx = (58 : Int32))))) (iff_true_intro (Or.inl hb9))] at k
      show Steps p.tables e below (s₁.setTop (mkF m 43 #[.val (.int cx)] [])) _
      refine XS.iconst X0.here hx rfl (hb hby d1_43) ?_
      refine XS.goto X0.here hx rfl (pc0 := 44) (pc' := 48) rfl (hb hby d1_44) (by decide) (by decide) ?_
      exact retN X0 hx (t := .boolean) Bd.returns (by simp) (hb hby d1_48) k
  have tl11 : ∀ fs, (∀ (f : JFrame) (acts : List Action), f.method = m → f.locked = none → f.entered = [] → (doReturn e (s₁.setTop f) acts (some (.int (bz (((¬ (cx < (65 : Int32))) ∧ (¬ ((90 : Int32) < cx))) ∨ ((cx = (95 : Int32)) ∨ (cx = (58 : Int32)))))))).1 = s₁.setFrames fs) → Steps p.tables e below (s₁.setTop (mkF m 22 #[.val (.int cx)] [(.int (65 : Int32)), (.int cx)])) (s₁.setFrames fs) := fun fs k => by
    by_cases hb4 : cx < (65 : Int32)
    · refine XS.icmpYes X0.here hx rfl (pc0 := 22) (pc' := 31) rfl (hb hby d1_22) rfl (tlt hb4).1 (by decide) (by decide) ?_
      rw [bz_congr (P := (((¬ (cx < (65 : Int32))) ∧ (¬ ((90 : Int32) < cx))) ∨ ((cx = (95 : Int32)) ∨ (cx = (58 : Int32))))) (Q := ((cx = (95 : Int32)) ∨ (cx = (58 : Int32)))) (or_iff_right (fun q => q.1 hb4))] at k
      show Steps p.tables e below (s₁.setTop (mkF m 31 #[.val (.int cx)] [])) _
      refine XS.iloadN X0.here hx rfl (hb hby d1_31) rfl ?_
      refine XS.bipush X0.here hx rfl (hb hby d1_32) ?_
      exact tl8 fs k
    · refine XS.icmpNo X0.here hx rfl (hb hby d1_22) rfl (flt hb4).1 ?_
      rw [bz_congr (P := (((¬ (cx < (65 : Int32))) ∧ (¬ ((90 : Int32) < cx))) ∨ ((cx = (95 : Int32)) ∨ (cx = (58 : Int32))))) (Q := ((¬ ((90 : Int32) < cx)) ∨ ((cx = (95 : Int32)) ∨ (cx = (58 : Int32))))) (or_congr (and_iff_right hb4) Iff.rfl)] at k
      show Steps p.tables e below (s₁.setTop (mkF m 25 #[.val (.int cx)] [])) _
      refine XS.iloadN X0.here hx rfl (hb hby d1_25) rfl ?_
      refine XS.bipush X0.here hx rfl (hb hby d1_26) ?_
      exact tl10 fs k
  have tl13 : ∀ fs, (∀ (f : JFrame) (acts : List Action), f.method = m → f.locked = none → f.entered = [] → (doReturn e (s₁.setTop f) acts (some (.int (bz ((¬ ((122 : Int32) < cx)) ∨ (((¬ (cx < (65 : Int32))) ∧ (¬ ((90 : Int32) < cx))) ∨ ((cx = (95 : Int32)) ∨ (cx = (58 : Int32))))))))).1 = s₁.setFrames fs) → Steps p.tables e below (s₁.setTop (mkF m 16 #[.val (.int cx)] [(.int (122 : Int32)), (.int cx)])) (s₁.setFrames fs) := fun fs k => by
    by_cases hb12 : (122 : Int32) < cx
    · refine XS.icmpNo X0.here hx rfl (hb hby d1_16) rfl (tlt hb12).2.2.2 ?_
      rw [bz_congr (P := ((¬ ((122 : Int32) < cx)) ∨ (((¬ (cx < (65 : Int32))) ∧ (¬ ((90 : Int32) < cx))) ∨ ((cx = (95 : Int32)) ∨ (cx = (58 : Int32)))))) (Q := (((¬ (cx < (65 : Int32))) ∧ (¬ ((90 : Int32) < cx))) ∨ ((cx = (95 : Int32)) ∨ (cx = (58 : Int32))))) (or_iff_right (not_not_intro hb12))] at k
      show Steps p.tables e below (s₁.setTop (mkF m 19 #[.val (.int cx)] [])) _
      refine XS.iloadN X0.here hx rfl (hb hby d1_19) rfl ?_
      refine XS.bipush X0.here hx rfl (hb hby d1_20) ?_
      exact tl11 fs k
    · refine XS.icmpYes X0.here hx rfl (pc0 := 16) (pc' := 43) rfl (hb hby d1_16) rfl (flt hb12).2.2.2 (by decide) (by decide) ?_
      rw [bz_one (P := ((¬ ((122 : Int32) < cx)) ∨ (((¬ (cx < (65 : Int32))) ∧ (¬ ((90 : Int32) < cx))) ∨ ((cx = (95 : Int32)) ∨ (cx = (58 : Int32)))))) (iff_true_intro (Or.inl hb12))] at k
      show Steps p.tables e below (s₁.setTop (mkF m 43 #[.val (.int cx)] [])) _
      refine XS.iconst X0.here hx rfl (hb hby d1_43) ?_
      refine XS.goto X0.here hx rfl (pc0 := 44) (pc' := 48) rfl (hb hby d1_44) (by decide) (by decide) ?_
      exact retN X0 hx (t := .boolean) Bd.returns (by simp) (hb hby d1_48) k
  have tl14 : ∀ fs, (∀ (f : JFrame) (acts : List Action), f.method = m → f.locked = none → f.entered = [] → (doReturn e (s₁.setTop f) acts (some (.int (bz (((¬ (cx < (97 : Int32))) ∧ (¬ ((122 : Int32) < cx))) ∨ (((¬ (cx < (65 : Int32))) ∧ (¬ ((90 : Int32) < cx))) ∨ ((cx = (95 : Int32)) ∨ (cx = (58 : Int32))))))))).1 = s₁.setFrames fs) → Steps p.tables e below (s₁.setTop (mkF m 10 #[.val (.int cx)] [(.int (97 : Int32)), (.int cx)])) (s₁.setFrames fs) := fun fs k => by
    by_cases hb3 : cx < (97 : Int32)
    · refine XS.icmpYes X0.here hx rfl (pc0 := 10) (pc' := 19) rfl (hb hby d1_10) rfl (tlt hb3).1 (by decide) (by decide) ?_
      rw [bz_congr (P := (((¬ (cx < (97 : Int32))) ∧ (¬ ((122 : Int32) < cx))) ∨ (((¬ (cx < (65 : Int32))) ∧ (¬ ((90 : Int32) < cx))) ∨ ((cx = (95 : Int32)) ∨ (cx = (58 : Int32)))))) (Q := (((¬ (cx < (65 : Int32))) ∧ (¬ ((90 : Int32) < cx))) ∨ ((cx = (95 : Int32)) ∨ (cx = (58 : Int32))))) (or_iff_right (fun q => q.1 hb3))] at k
      show Steps p.tables e below (s₁.setTop (mkF m 19 #[.val (.int cx)] [])) _
      refine XS.iloadN X0.here hx rfl (hb hby d1_19) rfl ?_
      refine XS.bipush X0.here hx rfl (hb hby d1_20) ?_
      exact tl11 fs k
    · refine XS.icmpNo X0.here hx rfl (hb hby d1_10) rfl (flt hb3).1 ?_
      rw [bz_congr (P := (((¬ (cx < (97 : Int32))) ∧ (¬ ((122 : Int32) < cx))) ∨ (((¬ (cx < (65 : Int32))) ∧ (¬ ((90 : Int32) < cx))) ∨ ((cx = (95 : Int32)) ∨ (cx = (58 : Int32)))))) (Q := ((¬ ((122 : Int32) < cx)) ∨ (((¬ (cx < (65 : Int32))) ∧ (¬ ((90 : Int32) < cx))) ∨ ((cx = (95 : Int32)) ∨ (cx = (58 : Int32)))))) (or_congr (and_iff_right hb3) Iff.rfl)] at k
      show Steps p.tables e below (s₁.setTop (mkF m 13 #[.val (.int cx)] [])) _
      refine XS.iloadN X0.here hx rfl (hb hby d1_13) rfl ?_
      refine XS.bipush X0.here hx rfl (hb hby d1_14) ?_
      exact tl13 fs k
  have tl29 : ∀ fs, (∀ (f : JFrame) (acts : List Action), f.method = m → f.locked = none → f.entered = [] → (doReturn e (s₁.setTop f) acts (some (.int (bz (¬ ((983039 : Int32) < cx)))))).1 = s₁.setFrames fs) → Steps p.tables e below (s₁.setTop (mkF m 207 #[.val (.int cx)] [(.int (983039 : Int32)), (.int cx)])) (s₁.setFrames fs) := fun fs k => by
    by_cases hb28 : (983039 : Int32) < cx
    · refine XS.icmpYes X0.here hx rfl (pc0 := 207) (pc' := 214) rfl (hb hby d1_207) rfl (tlt hb28).2.2.1 (by decide) (by decide) ?_
      rw [bz_zero (P := (¬ ((983039 : Int32) < cx))) (iff_false_intro (not_not_intro hb28))] at k
      show Steps p.tables e below (s₁.setTop (mkF m 214 #[.val (.int cx)] [])) _
      refine XS.iconst X0.here hx rfl (hb hby d1_214) ?_
      exact retN X0 hx (t := .boolean) Bd.returns (by simp) (hb hby d1_215) k
    · refine XS.icmpNo X0.here hx rfl (hb hby d1_207) rfl (flt hb28).2.2.1 ?_
      rw [bz_one (P := (¬ ((983039 : Int32) < cx))) (iff_true_intro hb28)] at k
      show Steps p.tables e below (s₁.setTop (mkF m 210 #[.val (.int cx)] [])) _
      refine XS.iconst X0.here hx rfl (hb hby d1_210) ?_
      refine XS.goto X0.here hx rfl (pc0 := 211) (pc' := 215) rfl (hb hby d1_211) (by decide) (by decide) ?_
      exact retN X0 hx (t := .boolean) Bd.returns (by simp) (hb hby d1_215) k
  have tl30 : ∀ fs, (∀ (f : JFrame) (acts : List Action), f.method = m → f.locked = none → f.entered = [] → (doReturn e (s₁.setTop f) acts (some (.int (bz ((¬ (cx < (65536 : Int32))) ∧ (¬ ((983039 : Int32) < cx))))))).1 = s₁.setFrames fs) → Steps p.tables e below (s₁.setTop (mkF m 201 #[.val (.int cx)] [(.int (65536 : Int32)), (.int cx)])) (s₁.setFrames fs) := fun fs k => by
    by_cases hb27 : cx < (65536 : Int32)
    · refine XS.icmpYes X0.here hx rfl (pc0 := 201) (pc' := 214) rfl (hb hby d1_201) rfl (tlt hb27).1 (by decide) (by decide) ?_
      rw [bz_zero (P := ((¬ (cx < (65536 : Int32))) ∧ (¬ ((983039 : Int32) < cx)))) (iff_false_intro (fun q => q.1 hb27))] at k
      show Steps p.tables e below (s₁.setTop (mkF m 214 #[.val (.int cx)] [])) _
      refine XS.iconst X0.here hx rfl (hb hby d1_214) ?_
      exact retN X0 hx (t := .boolean) Bd.returns (by simp) (hb hby d1_215) k
    · refine XS.icmpNo X0.here hx rfl (hb hby d1_201) rfl (flt hb27).1 ?_
      rw [bz_congr (P := ((¬ (cx < (65536 : Int32))) ∧ (¬ ((983039 : Int32) < cx)))) (Q := (¬ ((983039 : Int32) < cx))) (and_iff_right hb27)] at k
      show Steps p.tables e below (s₁.setTop (mkF m 204 #[.val (.int cx)] [])) _
      refine XS.iloadN X0.here hx rfl (hb hby d1_204) rfl ?_
      refine X0.ldcInt hx hown (mvT hZ (hw _ (List.mem_of_getElem? (i := 33) rfl))) (g := (mkF m 205 #[.val (.int cx)] [(.int cx)])) rfl (hb hby d1_205) _ ?_
      exact tl29 fs k
  have tl32 : ∀ fs, (∀ (f : JFrame) (acts : List Action), f.method = m → f.locked = none → f.entered = [] → (doReturn e (s₁.setTop f) acts (some (.int (bz ((¬ ((65533 : Int32) < cx)) ∨ ((¬ (cx < (65536 : Int32))) ∧ (¬ ((983039 : Int32) < cx)))))))).1 = s₁.setFrames fs) → Steps p.tables e below (s₁.setTop (mkF m 195 #[.val (.int cx)] [(.int (65533 : Int32)), (.int cx)])) (s₁.setFrames fs) := fun fs k => by
    by_cases hb31 : (65533 : Int32) < cx
    · refine XS.icmpNo X0.here hx rfl (hb hby d1_195) rfl (tlt hb31).2.2.2 ?_
      rw [bz_congr (P := ((¬ ((65533 : Int32) < cx)) ∨ ((¬ (cx < (65536 : Int32))) ∧ (¬ ((983039 : Int32) < cx))))) (Q := ((¬ (cx < (65536 : Int32))) ∧ (¬ ((983039 : Int32) < cx)))) (or_iff_right (not_not_intro hb31))] at k
      show Steps p.tables e below (s₁.setTop (mkF m 198 #[.val (.int cx)] [])) _
      refine XS.iloadN X0.here hx rfl (hb hby d1_198) rfl ?_
      refine X0.ldcInt hx hown (mvT hZ (hw _ (List.mem_of_getElem? (i := 29) rfl))) (g := (mkF m 199 #[.val (.int cx)] [(.int cx)])) rfl (hb hby d1_199) _ ?_
      exact tl30 fs k
    · refine XS.icmpYes X0.here hx rfl (pc0 := 195) (pc' := 210) rfl (hb hby d1_195) rfl (flt hb31).2.2.2 (by decide) (by decide) ?_
      rw [bz_one (P := ((¬ ((65533 : Int32) < cx)) ∨ ((¬ (cx < (65536 : Int32))) ∧ (¬ ((983039 : Int32) < cx))))) (iff_true_intro (Or.inl hb31))] at k
      show Steps p.tables e below (s₁.setTop (mkF m 210 #[.val (.int cx)] [])) _
      refine XS.iconst X0.here hx rfl (hb hby d1_210) ?_
      refine XS.goto X0.here hx rfl (pc0 := 211) (pc' := 215) rfl (hb hby d1_211) (by decide) (by decide) ?_
      exact retN X0 hx (t := .boolean) Bd.returns (by simp) (hb hby d1_215) k
  have tl33 : ∀ fs, (∀ (f : JFrame) (acts : List Action), f.method = m → f.locked = none → f.entered = [] → (doReturn e (s₁.setTop f) acts (some (.int (bz (((¬ (cx < (65008 : Int32))) ∧ (¬ ((65533 : Int32) < cx))) ∨ ((¬ (cx < (65536 : Int32))) ∧ (¬ ((983039 : Int32) < cx)))))))).1 = s₁.setFrames fs) → Steps p.tables e below (s₁.setTop (mkF m 189 #[.val (.int cx)] [(.int (65008 : Int32)), (.int cx)])) (s₁.setFrames fs) := fun fs k => by
    by_cases hb26 : cx < (65008 : Int32)
    · refine XS.icmpYes X0.here hx rfl (pc0 := 189) (pc' := 198) rfl (hb hby d1_189) rfl (tlt hb26).1 (by decide) (by decide) ?_
      rw [bz_congr (P := (((¬ (cx < (65008 : Int32))) ∧ (¬ ((65533 : Int32) < cx))) ∨ ((¬ (cx < (65536 : Int32))) ∧ (¬ ((983039 : Int32) < cx))))) (Q := ((¬ (cx < (65536 : Int32))) ∧ (¬ ((983039 : Int32) < cx)))) (or_iff_right (fun q => q.1 hb26))] at k
      show Steps p.tables e below (s₁.setTop (mkF m 198 #[.val (.int cx)] [])) _
      refine XS.iloadN X0.here hx rfl (hb hby d1_198) rfl ?_
      refine X0.ldcInt hx hown (mvT hZ (hw _ (List.mem_of_getElem? (i := 29) rfl))) (g := (mkF m 199 #[.val (.int cx)] [(.int cx)])) rfl (hb hby d1_199) _ ?_
      exact tl30 fs k
    · refine XS.icmpNo X0.here hx rfl (hb hby d1_189) rfl (flt hb26).1 ?_
      rw [bz_congr (P := (((¬ (cx < (65008 : Int32))) ∧ (¬ ((65533 : Int32) < cx))) ∨ ((¬ (cx < (65536 : Int32))) ∧ (¬ ((983039 : Int32) < cx))))) (Q := ((¬ ((65533 : Int32) < cx)) ∨ ((¬ (cx < (65536 : Int32))) ∧ (¬ ((983039 : Int32) < cx))))) (or_congr (and_iff_right hb26) Iff.rfl)] at k
      show Steps p.tables e below (s₁.setTop (mkF m 192 #[.val (.int cx)] [])) _
      refine XS.iloadN X0.here hx rfl (hb hby d1_192) rfl ?_
      refine X0.ldcInt hx hown (mvT hZ (hw _ (List.mem_of_getElem? (i := 32) rfl))) (g := (mkF m 193 #[.val (.int cx)] [(.int cx)])) rfl (hb hby d1_193) _ ?_
      exact tl32 fs k
  have tl35 : ∀ fs, (∀ (f : JFrame) (acts : List Action), f.method = m → f.locked = none → f.entered = [] → (doReturn e (s₁.setTop f) acts (some (.int (bz ((¬ ((64975 : Int32) < cx)) ∨ (((¬ (cx < (65008 : Int32))) ∧ (¬ ((65533 : Int32) < cx))) ∨ ((¬ (cx < (65536 : Int32))) ∧ (¬ ((983039 : Int32) < cx))))))))).1 = s₁.setFrames fs) → Steps p.tables e below (s₁.setTop (mkF m 183 #[.val (.int cx)] [(.int (64975 : Int32)), (.int cx)])) (s₁.setFrames fs) := fun fs k => by
    by_cases hb34 : (64975 : Int32) < cx
    · refine XS.icmpNo X0.here hx rfl (hb hby d1_183) rfl (tlt hb34).2.2.2 ?_
      rw [bz_congr (P := ((¬ ((64975 : Int32) < cx)) ∨ (((¬ (cx < (65008 : Int32))) ∧ (¬ ((65533 : Int32) < cx))) ∨ ((¬ (cx < (65536 : Int32))) ∧ (¬ ((983039 : Int32) < cx)))))) (Q := (((¬ (cx < (65008 : Int32))) ∧ (¬ ((65533 : Int32) < cx))) ∨ ((¬ (cx < (65536 : Int32))) ∧ (¬ ((983039 : Int32) < cx))))) (or_iff_right (not_not_intro hb34))] at k
      show Steps p.tables e below (s₁.setTop (mkF m 186 #[.val (.int cx)] [])) _
      refine XS.iloadN X0.here hx rfl (hb hby d1_186) rfl ?_
      refine X0.ldcInt hx hown (mvT hZ (hw _ (List.mem_of_getElem? (i := 28) rfl))) (g := (mkF m 187 #[.val (.int cx)] [(.int cx)])) rfl (hb hby d1_187) _ ?_
      exact tl33 fs k
    · refine XS.icmpYes X0.here hx rfl (pc0 := 183) (pc' := 210) rfl (hb hby d1_183) rfl (flt hb34).2.2.2 (by decide) (by decide) ?_
      rw [bz_one (P := ((¬ ((64975 : Int32) < cx)) ∨ (((¬ (cx < (65008 : Int32))) ∧ (¬ ((65533 : Int32) < cx))) ∨ ((¬ (cx < (65536 : Int32))) ∧ (¬ ((983039 : Int32) < cx)))))) (iff_true_intro (Or.inl hb34))] at k
      show Steps p.tables e below (s₁.setTop (mkF m 210 #[.val (.int cx)] [])) _
      refine XS.iconst X0.here hx rfl (hb hby d1_210) ?_
      refine XS.goto X0.here hx rfl (pc0 := 211) (pc' := 215) rfl (hb hby d1_211) (by decide) (by decide) ?_
      exact retN X0 hx (t := .boolean) Bd.returns (by simp) (hb hby d1_215) k
  have tl36 : ∀ fs, (∀ (f : JFrame) (acts : List Action), f.method = m → f.locked = none → f.entered = [] → (doReturn e (s₁.setTop f) acts (some (.int (bz (((¬ (cx < (63744 : Int32))) ∧ (¬ ((64975 : Int32) < cx))) ∨ (((¬ (cx < (65008 : Int32))) ∧ (¬ ((65533 : Int32) < cx))) ∨ ((¬ (cx < (65536 : Int32))) ∧ (¬ ((983039 : Int32) < cx))))))))).1 = s₁.setFrames fs) → Steps p.tables e below (s₁.setTop (mkF m 177 #[.val (.int cx)] [(.int (63744 : Int32)), (.int cx)])) (s₁.setFrames fs) := fun fs k => by
    by_cases hb25 : cx < (63744 : Int32)
    · refine XS.icmpYes X0.here hx rfl (pc0 := 177) (pc' := 186) rfl (hb hby d1_177) rfl (tlt hb25).1 (by decide) (by decide) ?_
      rw [bz_congr (P := (((¬ (cx < (63744 : Int32))) ∧ (¬ ((64975 : Int32) < cx))) ∨ (((¬ (cx < (65008 : Int32))) ∧ (¬ ((65533 : Int32) < cx))) ∨ ((¬ (cx < (65536 : Int32))) ∧ (¬ ((983039 : Int32) < cx)))))) (Q := (((¬ (cx < (65008 : Int32))) ∧ (¬ ((65533 : Int32) < cx))) ∨ ((¬ (cx < (65536 : Int32))) ∧ (¬ ((983039 : Int32) < cx))))) (or_iff_right (fun q => q.1 hb25))] at k
      show Steps p.tables e below (s₁.setTop (mkF m 186 #[.val (.int cx)] [])) _
      refine XS.iloadN X0.here hx rfl (hb hby d1_186) rfl ?_
      refine X0.ldcInt hx hown (mvT hZ (hw _ (List.mem_of_getElem? (i := 28) rfl))) (g := (mkF m 187 #[.val (.int cx)] [(.int cx)])) rfl (hb hby d1_187) _ ?_
      exact tl33 fs k
    · refine XS.icmpNo X0.here hx rfl (hb hby d1_177) rfl (flt hb25).1 ?_
      rw [bz_congr (P := (((¬ (cx < (63744 : Int32))) ∧ (¬ ((64975 : Int32) < cx))) ∨ (((¬ (cx < (65008 : Int32))) ∧ (¬ ((65533 : Int32) < cx))) ∨ ((¬ (cx < (65536 : Int32))) ∧ (¬ ((983039 : Int32) < cx)))))) (Q := ((¬ ((64975 : Int32) < cx)) ∨ (((¬ (cx < (65008 : Int32))) ∧ (¬ ((65533 : Int32) < cx))) ∨ ((¬ (cx < (65536 : Int32))) ∧ (¬ ((983039 : Int32) < cx)))))) (or_congr (and_iff_right hb25) Iff.rfl)] at k
      show Steps p.tables e below (s₁.setTop (mkF m 180 #[.val (.int cx)] [])) _
      refine XS.iloadN X0.here hx rfl (hb hby d1_180) rfl ?_
      refine X0.ldcInt hx hown (mvT hZ (hw _ (List.mem_of_getElem? (i := 31) rfl))) (g := (mkF m 181 #[.val (.int cx)] [(.int cx)])) rfl (hb hby d1_181) _ ?_
      exact tl35 fs k
  have tl38 : ∀ fs, (∀ (f : JFrame) (acts : List Action), f.method = m → f.locked = none → f.entered = [] → (doReturn e (s₁.setTop f) acts (some (.int (bz ((¬ ((55295 : Int32) < cx)) ∨ (((¬ (cx < (63744 : Int32))) ∧ (¬ ((64975 : Int32) < cx))) ∨ (((¬ (cx < (65008 : Int32))) ∧ (¬ ((65533 : Int32) < cx))) ∨ ((¬ (cx < (65536 : Int32))) ∧ (¬ ((983039 : Int32) < cx)))))))))).1 = s₁.setFrames fs) → Steps p.tables e below (s₁.setTop (mkF m 171 #[.val (.int cx)] [(.int (55295 : Int32)), (.int cx)])) (s₁.setFrames fs) := fun fs k => by
    by_cases hb37 : (55295 : Int32) < cx
    · refine XS.icmpNo X0.here hx rfl (hb hby d1_171) rfl (tlt hb37).2.2.2 ?_
      rw [bz_congr (P := ((¬ ((55295 : Int32) < cx)) ∨ (((¬ (cx < (63744 : Int32))) ∧ (¬ ((64975 : Int32) < cx))) ∨ (((¬ (cx < (65008 : Int32))) ∧ (¬ ((65533 : Int32) < cx))) ∨ ((¬ (cx < (65536 : Int32))) ∧ (¬ ((983039 : Int32) < cx))))))) (Q := (((¬ (cx < (63744 : Int32))) ∧ (¬ ((64975 : Int32) < cx))) ∨ (((¬ (cx < (65008 : Int32))) ∧ (¬ ((65533 : Int32) < cx))) ∨ ((¬ (cx < (65536 : Int32))) ∧ (¬ ((983039 : Int32) < cx)))))) (or_iff_right (not_not_intro hb37))] at k
      show Steps p.tables e below (s₁.setTop (mkF m 174 #[.val (.int cx)] [])) _
      refine XS.iloadN X0.here hx rfl (hb hby d1_174) rfl ?_
      refine X0.ldcInt hx hown (mvT hZ (hw _ (List.mem_of_getElem? (i := 27) rfl))) (g := (mkF m 175 #[.val (.int cx)] [(.int cx)])) rfl (hb hby d1_175) _ ?_
      exact tl36 fs k
    · refine XS.icmpYes X0.here hx rfl (pc0 := 171) (pc' := 210) rfl (hb hby d1_171) rfl (flt hb37).2.2.2 (by decide) (by decide) ?_
      rw [bz_one (P := ((¬ ((55295 : Int32) < cx)) ∨ (((¬ (cx < (63744 : Int32))) ∧ (¬ ((64975 : Int32) < cx))) ∨ (((¬ (cx < (65008 : Int32))) ∧ (¬ ((65533 : Int32) < cx))) ∨ ((¬ (cx < (65536 : Int32))) ∧ (¬ ((983039 : Int32) < cx))))))) (iff_true_intro (Or.inl hb37))] at k
      show Steps p.tables e below (s₁.setTop (mkF m 210 #[.val (.int cx)] [])) _
      refine XS.iconst X0.here hx rfl (hb hby d1_210) ?_
      refine XS.goto X0.here hx rfl (pc0 := 211) (pc' := 215) rfl (hb hby d1_211) (by decide) (by decide) ?_
      exact retN X0 hx (t := .boolean) Bd.returns (by simp) (hb hby d1_215) k
  have tl39 : ∀ fs, (∀ (f : JFrame) (acts : List Action), f.method = m → f.locked = none → f.entered = [] → (doReturn e (s₁.setTop f) acts (some (.int (bz (((¬ (cx < (12289 : Int32))) ∧ (¬ ((55295 : Int32) < cx))) ∨ (((¬ (cx < (63744 : Int32))) ∧ (¬ ((64975 : Int32) < cx))) ∨ (((¬ (cx < (65008 : Int32))) ∧ (¬ ((65533 : Int32) < cx))) ∨ ((¬ (cx < (65536 : Int32))) ∧ (¬ ((983039 : Int32) < cx)))))))))).1 = s₁.setFrames fs) → Steps p.tables e below (s₁.setTop (mkF m 165 #[.val (.int cx)] [(.int (12289 : Int32)), (.int cx)])) (s₁.setFrames fs) := fun fs k => by
    by_cases hb24 : cx < (12289 : Int32)
    · refine XS.icmpYes X0.here hx rfl (pc0 := 165) (pc' := 174) rfl (hb hby d1_165) rfl (tlt hb24).1 (by decide) (by decide) ?_
      rw [bz_congr (P := (((¬ (cx < (12289 : Int32))) ∧ (¬ ((55295 : Int32) < cx))) ∨ (((¬ (cx < (63744 : Int32))) ∧ (¬ ((64975 : Int32) < cx))) ∨ (((¬ (cx < (65008 : Int32))) ∧ (¬ ((65533 : Int32) < cx))) ∨ ((¬ (cx < (65536 : Int32))) ∧ (¬ ((983039 : Int32) < cx))))))) (Q := (((¬ (cx < (63744 : Int32))) ∧ (¬ ((64975 : Int32) < cx))) ∨ (((¬ (cx < (65008 : Int32))) ∧ (¬ ((65533 : Int32) < cx))) ∨ ((¬ (cx < (65536 : Int32))) ∧ (¬ ((983039 : Int32) < cx)))))) (or_iff_right (fun q => q.1 hb24))] at k
      show Steps p.tables e below (s₁.setTop (mkF m 174 #[.val (.int cx)] [])) _
      refine XS.iloadN X0.here hx rfl (hb hby d1_174) rfl ?_
      refine X0.ldcInt hx hown (mvT hZ (hw _ (List.mem_of_getElem? (i := 27) rfl))) (g := (mkF m 175 #[.val (.int cx)] [(.int cx)])) rfl (hb hby d1_175) _ ?_
      exact tl36 fs k
    · refine XS.icmpNo X0.here hx rfl (hb hby d1_165) rfl (flt hb24).1 ?_
      rw [bz_congr (P := (((¬ (cx < (12289 : Int32))) ∧ (¬ ((55295 : Int32) < cx))) ∨ (((¬ (cx < (63744 : Int32))) ∧ (¬ ((64975 : Int32) < cx))) ∨ (((¬ (cx < (65008 : Int32))) ∧ (¬ ((65533 : Int32) < cx))) ∨ ((¬ (cx < (65536 : Int32))) ∧ (¬ ((983039 : Int32) < cx))))))) (Q := ((¬ ((55295 : Int32) < cx)) ∨ (((¬ (cx < (63744 : Int32))) ∧ (¬ ((64975 : Int32) < cx))) ∨ (((¬ (cx < (65008 : Int32))) ∧ (¬ ((65533 : Int32) < cx))) ∨ ((¬ (cx < (65536 : Int32))) ∧ (¬ ((983039 : Int32) < cx))))))) (or_congr (and_iff_right hb24) Iff.rfl)] at k
      show Steps p.tables e below (s₁.setTop (mkF m 168 #[.val (.int cx)] [])) _
      refine XS.iloadN X0.here hx rfl (hb hby d1_168) rfl ?_
      refine X0.ldcInt hx hown (mvT hZ (hw _ (List.mem_of_getElem? (i := 30) rfl))) (g := (mkF m 169 #[.val (.int cx)] [(.int cx)])) rfl (hb hby d1_169) _ ?_
      exact tl38 fs k
  have tl41 : ∀ fs, (∀ (f : JFrame) (acts : List Action), f.method = m → f.locked = none → f.entered = [] → (doReturn e (s₁.setTop f) acts (some (.int (bz ((¬ ((12271 : Int32) < cx)) ∨ (((¬ (cx < (12289 : Int32))) ∧ (¬ ((55295 : Int32) < cx))) ∨ (((¬ (cx < (63744 : Int32))) ∧ (¬ ((64975 : Int32) < cx))) ∨ (((¬ (cx < (65008 : Int32))) ∧ (¬ ((65533 : Int32) < cx))) ∨ ((¬ (cx < (65536 : Int32))) ∧ (¬ ((983039 : Int32) < cx))))))))))).1 = s₁.setFrames fs) → Steps p.tables e below (s₁.setTop (mkF m 158 #[.val (.int cx)] [(.int (12271 : Int32)), (.int cx)])) (s₁.setFrames fs) := fun fs k => by
    by_cases hb40 : (12271 : Int32) < cx
    · refine XS.icmpNo X0.here hx rfl (hb hby d1_158) rfl (tlt hb40).2.2.2 ?_
      rw [bz_congr (P := ((¬ ((12271 : Int32) < cx)) ∨ (((¬ (cx < (12289 : Int32))) ∧ (¬ ((55295 : Int32) < cx))) ∨ (((¬ (cx < (63744 : Int32))) ∧ (¬ ((64975 : Int32) < cx))) ∨ (((¬ (cx < (65008 : Int32))) ∧ (¬ ((65533 : Int32) < cx))) ∨ ((¬ (cx < (65536 : Int32))) ∧ (¬ ((983039 : Int32) < cx)))))))) (Q := (((¬ (cx < (12289 : Int32))) ∧ (¬ ((55295 : Int32) < cx))) ∨ (((¬ (cx < (63744 : Int32))) ∧ (¬ ((64975 : Int32) < cx))) ∨ (((¬ (cx < (65008 : Int32))) ∧ (¬ ((65533 : Int32) < cx))) ∨ ((¬ (cx < (65536 : Int32))) ∧ (¬ ((983039 : Int32) < cx))))))) (or_iff_right (not_not_intro hb40))] at k
      show Steps p.tables e below (s₁.setTop (mkF m 161 #[.val (.int cx)] [])) _
      refine XS.iloadN X0.here hx rfl (hb hby d1_161) rfl ?_
      refine XS.sipush X0.here hx rfl (hb hby d1_162) ?_
      exact tl39 fs k
    · refine XS.icmpYes X0.here hx rfl (pc0 := 158) (pc' := 210) rfl (hb hby d1_158) rfl (flt hb40).2.2.2 (by decide) (by decide) ?_
      rw [bz_one (P := ((¬ ((12271 : Int32) < cx)) ∨ (((¬ (cx < (12289 : Int32))) ∧ (¬ ((55295 : Int32) < cx))) ∨ (((¬ (cx < (63744 : Int32))) ∧ (¬ ((64975 : Int32) < cx))) ∨ (((¬ (cx < (65008 : Int32))) ∧ (¬ ((65533 : Int32) < cx))) ∨ ((¬ (cx < (65536 : Int32))) ∧ (¬ ((983039 : Int32) < cx)))))))) (iff_true_intro (Or.inl hb40))] at k
      show Steps p.tables e below (s₁.setTop (mkF m 210 #[.val (.int cx)] [])) _
      refine XS.iconst X0.here hx rfl (hb hby d1_210) ?_
      refine XS.goto X0.here hx rfl (pc0 := 211) (pc' := 215) rfl (hb hby d1_211) (by decide) (by decide) ?_
      exact retN X0 hx (t := .boolean) Bd.returns (by simp) (hb hby d1_215) k
  have tl42 : ∀ fs, (∀ (f : JFrame) (acts : List Action), f.method = m → f.locked = none → f.entered = [] → (doReturn e (s₁.setTop f) acts (some (.int (bz (((¬ (cx < (11264 : Int32))) ∧ (¬ ((12271 : Int32) < cx))) ∨ (((¬ (cx < (12289 : Int32))) ∧ (¬ ((55295 : Int32) < cx))) ∨ (((¬ (cx < (63744 : Int32))) ∧ (¬ ((64975 : Int32) < cx))) ∨ (((¬ (cx < (65008 : Int32))) ∧ (¬ ((65533 : Int32) < cx))) ∨ ((¬ (cx < (65536 : Int32))) ∧ (¬ ((983039 : Int32) < cx))))))))))).1 = s₁.setFrames fs) → Steps p.tables e below (s₁.setTop (mkF m 151 #[.val (.int cx)] [(.int (11264 : Int32)), (.int cx)])) (s₁.setFrames fs) := fun fs k => by
    by_cases hb23 : cx < (11264 : Int32)
    · refine XS.icmpYes X0.here hx rfl (pc0 := 151) (pc' := 161) rfl (hb hby d1_151) rfl (tlt hb23).1 (by decide) (by decide) ?_
      rw [bz_congr (P := (((¬ (cx < (11264 : Int32))) ∧ (¬ ((12271 : Int32) < cx))) ∨ (((¬ (cx < (12289 : Int32))) ∧ (¬ ((55295 : Int32) < cx))) ∨ (((¬ (cx < (63744 : Int32))) ∧ (¬ ((64975 : Int32) < cx))) ∨ (((¬ (cx < (65008 : Int32))) ∧ (¬ ((65533 : Int32) < cx))) ∨ ((¬ (cx < (65536 : Int32))) ∧ (¬ ((983039 : Int32) < cx)))))))) (Q := (((¬ (cx < (12289 : Int32))) ∧ (¬ ((55295 : Int32) < cx))) ∨ (((¬ (cx < (63744 : Int32))) ∧ (¬ ((64975 : Int32) < cx))) ∨ (((¬ (cx < (65008 : Int32))) ∧ (¬ ((65533 : Int32) < cx))) ∨ ((¬ (cx < (65536 : Int32))) ∧ (¬ ((983039 : Int32) < cx))))))) (or_iff_right (fun q => q.1 hb23))] at k
      show Steps p.tables e below (s₁.setTop (mkF m 161 #[.val (.int cx)] [])) _
      refine XS.iloadN X0.here hx rfl (hb hby d1_161) rfl ?_
      refine XS.sipush X0.here hx rfl (hb hby d1_162) ?_
      exact tl39 fs k
    · refine XS.icmpNo X0.here hx rfl (hb hby d1_151) rfl (flt hb23).1 ?_
      rw [bz_congr (P := (((¬ (cx < (11264 : Int32))) ∧ (¬ ((12271 : Int32) < cx))) ∨ (((¬ (cx < (12289 : Int32))) ∧ (¬ ((55295 : Int32) < cx))) ∨ (((¬ (cx < (63744 : Int32))) ∧ (¬ ((64975 : Int32) < cx))) ∨ (((¬ (cx < (65008 : Int32))) ∧ (¬ ((65533 : Int32) < cx))) ∨ ((¬ (cx < (65536 : Int32))) ∧ (¬ ((983039 : Int32) < cx)))))))) (Q := ((¬ ((12271 : Int32) < cx)) ∨ (((¬ (cx < (12289 : Int32))) ∧ (¬ ((55295 : Int32) < cx))) ∨ (((¬ (cx < (63744 : Int32))) ∧ (¬ ((64975 : Int32) < cx))) ∨ (((¬ (cx < (65008 : Int32))) ∧ (¬ ((65533 : Int32) < cx))) ∨ ((¬ (cx < (65536 : Int32))) ∧ (¬ ((983039 : Int32) < cx)))))))) (or_congr (and_iff_right hb23) Iff.rfl)] at k
      show Steps p.tables e below (s₁.setTop (mkF m 154 #[.val (.int cx)] [])) _
      refine XS.iloadN X0.here hx rfl (hb hby d1_154) rfl ?_
      refine XS.sipush X0.here hx rfl (hb hby d1_155) ?_
      exact tl41 fs k
  have tl44 : ∀ fs, (∀ (f : JFrame) (acts : List Action), f.method = m → f.locked = none → f.entered = [] → (doReturn e (s₁.setTop f) acts (some (.int (bz ((¬ ((8591 : Int32) < cx)) ∨ (((¬ (cx < (11264 : Int32))) ∧ (¬ ((12271 : Int32) < cx))) ∨ (((¬ (cx < (12289 : Int32))) ∧ (¬ ((55295 : Int32) < cx))) ∨ (((¬ (cx < (63744 : Int32))) ∧ (¬ ((64975 : Int32) < cx))) ∨ (((¬ (cx < (65008 : Int32))) ∧ (¬ ((65533 : Int32) < cx))) ∨ ((¬ (cx < (65536 : Int32))) ∧ (¬ ((983039 : Int32) < cx)))))))))))).1 = s₁.setFrames fs) → Steps p.tables e below (s₁.setTop (mkF m 144 #[.val (.int cx)] [(.int (8591 : Int32)), (.int cx)])) (s₁.setFrames fs) := fun fs k => by
    by_cases hb43 : (8591 : Int32) < cx
    · refine XS.icmpNo X0.here hx rfl (hb hby d1_144) rfl (tlt hb43).2.2.2 ?_
      rw [bz_congr (P := ((¬ ((8591 : Int32) < cx)) ∨ (((¬ (cx < (11264 : Int32))) ∧ (¬ ((12271 : Int32) < cx))) ∨ (((¬ (cx < (12289 : Int32))) ∧ (¬ ((55295 : Int32) < cx))) ∨ (((¬ (cx < (63744 : Int32))) ∧ (¬ ((64975 : Int32) < cx))) ∨ (((¬ (cx < (65008 : Int32))) ∧ (¬ ((65533 : Int32) < cx))) ∨ ((¬ (cx < (65536 : Int32))) ∧ (¬ ((983039 : Int32) < cx))))))))) (Q := (((¬ (cx < (11264 : Int32))) ∧ (¬ ((12271 : Int32) < cx))) ∨ (((¬ (cx < (12289 : Int32))) ∧ (¬ ((55295 : Int32) < cx))) ∨ (((¬ (cx < (63744 : Int32))) ∧ (¬ ((64975 : Int32) < cx))) ∨ (((¬ (cx < (65008 : Int32))) ∧ (¬ ((65533 : Int32) < cx))) ∨ ((¬ (cx < (65536 : Int32))) ∧ (¬ ((983039 : Int32) < cx)))))))) (or_iff_right (not_not_intro hb43))] at k
      show Steps p.tables e below (s₁.setTop (mkF m 147 #[.val (.int cx)] [])) _
      refine XS.iloadN X0.here hx rfl (hb hby d1_147) rfl ?_
      refine XS.sipush X0.here hx rfl (hb hby d1_148) ?_
      exact tl42 fs k
    · refine XS.icmpYes X0.here hx rfl (pc0 := 144) (pc' := 210) rfl (hb hby d1_144) rfl (flt hb43).2.2.2 (by decide) (by decide) ?_
      rw [bz_one (P := ((¬ ((8591 : Int32) < cx)) ∨ (((¬ (cx < (11264 : Int32))) ∧ (¬ ((12271 : Int32) < cx))) ∨ (((¬ (cx < (12289 : Int32))) ∧ (¬ ((55295 : Int32) < cx))) ∨ (((¬ (cx < (63744 : Int32))) ∧ (¬ ((64975 : Int32) < cx))) ∨ (((¬ (cx < (65008 : Int32))) ∧ (¬ ((65533 : Int32) < cx))) ∨ ((¬ (cx < (65536 : Int32))) ∧ (¬ ((983039 : Int32) < cx))))))))) (iff_true_intro (Or.inl hb43))] at k
      show Steps p.tables e below (s₁.setTop (mkF m 210 #[.val (.int cx)] [])) _
      refine XS.iconst X0.here hx rfl (hb hby d1_210) ?_
      refine XS.goto X0.here hx rfl (pc0 := 211) (pc' := 215) rfl (hb hby d1_211) (by decide) (by decide) ?_
      exact retN X0 hx (t := .boolean) Bd.returns (by simp) (hb hby d1_215) k
  have tl45 : ∀ fs, (∀ (f : JFrame) (acts : List Action), f.method = m → f.locked = none → f.entered = [] → (doReturn e (s₁.setTop f) acts (some (.int (bz (((¬ (cx < (8304 : Int32))) ∧ (¬ ((8591 : Int32) < cx))) ∨ (((¬ (cx < (11264 : Int32))) ∧ (¬ ((12271 : Int32) < cx))) ∨ (((¬ (cx < (12289 : Int32))) ∧ (¬ ((55295 : Int32) < cx))) ∨ (((¬ (cx < (63744 : Int32))) ∧ (¬ ((64975 : Int32) < cx))) ∨ (((¬ (cx < (65008 : Int32))) ∧ (¬ ((65533 : Int32) < cx))) ∨ ((¬ (cx < (65536 : Int32))) ∧ (¬ ((983039 : Int32) < cx)))))))))))).1 = s₁.setFrames fs) → Steps p.tables e below (s₁.setTop (mkF m 137 #[.val (.int cx)] [(.int (8304 : Int32)), (.int cx)])) (s₁.setFrames fs) := fun fs k => by
    by_cases hb22 : cx < (8304 : Int32)
    · refine XS.icmpYes X0.here hx rfl (pc0 := 137) (pc' := 147) rfl (hb hby d1_137) rfl (tlt hb22).1 (by decide) (by decide) ?_
      rw [bz_congr (P := (((¬ (cx < (8304 : Int32))) ∧ (¬ ((8591 : Int32) < cx))) ∨ (((¬ (cx < (11264 : Int32))) ∧ (¬ ((12271 : Int32) < cx))) ∨ (((¬ (cx < (12289 : Int32))) ∧ (¬ ((55295 : Int32) < cx))) ∨ (((¬ (cx < (63744 : Int32))) ∧ (¬ ((64975 : Int32) < cx))) ∨ (((¬ (cx < (65008 : Int32))) ∧ (¬ ((65533 : Int32) < cx))) ∨ ((¬ (cx < (65536 : Int32))) ∧ (¬ ((983039 : Int32) < cx))))))))) (Q := (((¬ (cx < (11264 : Int32))) ∧ (¬ ((12271 : Int32) < cx))) ∨ (((¬ (cx < (12289 : Int32))) ∧ (¬ ((55295 : Int32) < cx))) ∨ (((¬ (cx < (63744 : Int32))) ∧ (¬ ((64975 : Int32) < cx))) ∨ (((¬ (cx < (65008 : Int32))) ∧ (¬ ((65533 : Int32) < cx))) ∨ ((¬ (cx < (65536 : Int32))) ∧ (¬ ((983039 : Int32) < cx)))))))) (or_iff_right (fun q => q.1 hb22))] at k
      show Steps p.tables e below (s₁.setTop (mkF m 147 #[.val (.int cx)] [])) _
      refine XS.iloadN X0.here hx rfl (hb hby d1_147) rfl ?_
      refine XS.sipush X0.here hx rfl (hb hby d1_148) ?_
      exact tl42 fs k
    · refine XS.icmpNo X0.here hx rfl (hb hby d1_137) rfl (flt hb22).1 ?_
      rw [bz_congr (P := (((¬ (cx < (8304 : Int32))) ∧ (¬ ((8591 : Int32) < cx))) ∨ (((¬ (cx < (11264 : Int32))) ∧ (¬ ((12271 : Int32) < cx))) ∨ (((¬ (cx < (12289 : Int32))) ∧ (¬ ((55295 : Int32) < cx))) ∨ (((¬ (cx < (63744 : Int32))) ∧ (¬ ((64975 : Int32) < cx))) ∨ (((¬ (cx < (65008 : Int32))) ∧ (¬ ((65533 : Int32) < cx))) ∨ ((¬ (cx < (65536 : Int32))) ∧ (¬ ((983039 : Int32) < cx))))))))) (Q := ((¬ ((8591 : Int32) < cx)) ∨ (((¬ (cx < (11264 : Int32))) ∧ (¬ ((12271 : Int32) < cx))) ∨ (((¬ (cx < (12289 : Int32))) ∧ (¬ ((55295 : Int32) < cx))) ∨ (((¬ (cx < (63744 : Int32))) ∧ (¬ ((64975 : Int32) < cx))) ∨ (((¬ (cx < (65008 : Int32))) ∧ (¬ ((65533 : Int32) < cx))) ∨ ((¬ (cx < (65536 : Int32))) ∧ (¬ ((983039 : Int32) < cx))))))))) (or_congr (and_iff_right hb22) Iff.rfl)] at k
      show Steps p.tables e below (s₁.setTop (mkF m 140 #[.val (.int cx)] [])) _
      refine XS.iloadN X0.here hx rfl (hb hby d1_140) rfl ?_
      refine XS.sipush X0.here hx rfl (hb hby d1_141) ?_
      exact tl44 fs k
  have tl46 : ∀ fs, (∀ (f : JFrame) (acts : List Action), f.method = m → f.locked = none → f.entered = [] → (doReturn e (s₁.setTop f) acts (some (.int (bz ((cx = (8205 : Int32)) ∨ (((¬ (cx < (8304 : Int32))) ∧ (¬ ((8591 : Int32) < cx))) ∨ (((¬ (cx < (11264 : Int32))) ∧ (¬ ((12271 : Int32) < cx))) ∨ (((¬ (cx < (12289 : Int32))) ∧ (¬ ((55295 : Int32) < cx))) ∨ (((¬ (cx < (63744 : Int32))) ∧ (¬ ((64975 : Int32) < cx))) ∨ (((¬ (cx < (65008 : Int32))) ∧ (¬ ((65533 : Int32) < cx))) ∨ ((¬ (cx < (65536 : Int32))) ∧ (¬ ((983039 : Int32) < cx))))))))))))).1 = s₁.setFrames fs) → Steps p.tables e below (s₁.setTop (mkF m 130 #[.val (.int cx)] [(.int (8205 : Int32)), (.int cx)])) (s₁.setFrames fs) := fun fs k => by
    by_cases hb21 : cx = (8205 : Int32)
    · refine XS.icmpYes X0.here hx rfl (pc0 := 130) (pc' := 210) rfl (hb hby d1_130) rfl (teq hb21).1 (by decide) (by decide) ?_
      rw [bz_one (P := ((cx = (8205 : Int32)) ∨ (((¬ (cx < (8304 : Int32))) ∧ (¬ ((8591 : Int32) < cx))) ∨ (((¬ (cx < (11264 : Int32))) ∧ (¬ ((12271 : Int32) < cx))) ∨ (((¬ (cx < (12289 : Int32))) ∧ (¬ ((55295 : Int32) < cx))) ∨ (((¬ (cx < (63744 : Int32))) ∧ (¬ ((64975 : Int32) < cx))) ∨ (((¬ (cx < (65008 : Int32))) ∧ (¬ ((65533 : Int32) < cx))) ∨ ((¬ (cx < (65536 : Int32))) ∧ (¬ ((983039 : Int32) < cx)))))))))) (iff_true_intro (Or.inl hb21))] at k
      show Steps p.tables e below (s₁.setTop (mkF m 210 #[.val (.int cx)] [])) _
      refine XS.iconst X0.here hx rfl (hb hby d1_210) ?_
      refine XS.goto X0.here hx rfl (pc0 := 211) (pc' := 215) rfl (hb hby d1_211) (by decide) (by decide) ?_
      exact retN X0 hx (t := .boolean) Bd.returns (by simp) (hb hby d1_215) k
    · refine XS.icmpNo X0.here hx rfl (hb hby d1_130) rfl (feq hb21).1 ?_
      rw [bz_congr (P := ((cx = (8205 : Int32)) ∨ (((¬ (cx < (8304 : Int32))) ∧ (¬ ((8591 : Int32) < cx))) ∨ (((¬ (cx < (11264 : Int32))) ∧ (¬ ((12271 : Int32) < cx))) ∨ (((¬ (cx < (12289 : Int32))) ∧ (¬ ((55295 : Int32) < cx))) ∨ (((¬ (cx < (63744 : Int32))) ∧ (¬ ((64975 : Int32) < cx))) ∨ (((¬ (cx < (65008 : Int32))) ∧ (¬ ((65533 : Int32) < cx))) ∨ ((¬ (cx < (65536 : Int32))) ∧ (¬ ((983039 : Int32) < cx)))))))))) (Q := (((¬ (cx < (8304 : Int32))) ∧ (¬ ((8591 : Int32) < cx))) ∨ (((¬ (cx < (11264 : Int32))) ∧ (¬ ((12271 : Int32) < cx))) ∨ (((¬ (cx < (12289 : Int32))) ∧ (¬ ((55295 : Int32) < cx))) ∨ (((¬ (cx < (63744 : Int32))) ∧ (¬ ((64975 : Int32) < cx))) ∨ (((¬ (cx < (65008 : Int32))) ∧ (¬ ((65533 : Int32) < cx))) ∨ ((¬ (cx < (65536 : Int32))) ∧ (¬ ((983039 : Int32) < cx))))))))) (or_iff_right hb21)] at k
      show Steps p.tables e below (s₁.setTop (mkF m 133 #[.val (.int cx)] [])) _
      refine XS.iloadN X0.here hx rfl (hb hby d1_133) rfl ?_
      refine XS.sipush X0.here hx rfl (hb hby d1_134) ?_
      exact tl45 fs k
  have tl47 : ∀ fs, (∀ (f : JFrame) (acts : List Action), f.method = m → f.locked = none → f.entered = [] → (doReturn e (s₁.setTop f) acts (some (.int (bz ((cx = (8204 : Int32)) ∨ ((cx = (8205 : Int32)) ∨ (((¬ (cx < (8304 : Int32))) ∧ (¬ ((8591 : Int32) < cx))) ∨ (((¬ (cx < (11264 : Int32))) ∧ (¬ ((12271 : Int32) < cx))) ∨ (((¬ (cx < (12289 : Int32))) ∧ (¬ ((55295 : Int32) < cx))) ∨ (((¬ (cx < (63744 : Int32))) ∧ (¬ ((64975 : Int32) < cx))) ∨ (((¬ (cx < (65008 : Int32))) ∧ (¬ ((65533 : Int32) < cx))) ∨ ((¬ (cx < (65536 : Int32))) ∧ (¬ ((983039 : Int32) < cx)))))))))))))).1 = s₁.setFrames fs) → Steps p.tables e below (s₁.setTop (mkF m 123 #[.val (.int cx)] [(.int (8204 : Int32)), (.int cx)])) (s₁.setFrames fs) := fun fs k => by
    by_cases hb20 : cx = (8204 : Int32)
    · refine XS.icmpYes X0.here hx rfl (pc0 := 123) (pc' := 210) rfl (hb hby d1_123) rfl (teq hb20).1 (by decide) (by decide) ?_
      rw [bz_one (P := ((cx = (8204 : Int32)) ∨ ((cx = (8205 : Int32)) ∨ (((¬ (cx < (8304 : Int32))) ∧ (¬ ((8591 : Int32) < cx))) ∨ (((¬ (cx < (11264 : Int32))) ∧ (¬ ((12271 : Int32) < cx))) ∨ (((¬ (cx < (12289 : Int32))) ∧ (¬ ((55295 : Int32) < cx))) ∨ (((¬ (cx < (63744 : Int32))) ∧ (¬ ((64975 : Int32) < cx))) ∨ (((¬ (cx < (65008 : Int32))) ∧ (¬ ((65533 : Int32) < cx))) ∨ ((¬ (cx < (65536 : Int32))) ∧ (¬ ((983039 : Int32) < cx))))))))))) (iff_true_intro (Or.inl hb20))] at k
      show Steps p.tables e below (s₁.setTop (mkF m 210 #[.val (.int cx)] [])) _
      refine XS.iconst X0.here hx rfl (hb hby d1_210) ?_
      refine XS.goto X0.here hx rfl (pc0 := 211) (pc' := 215) rfl (hb hby d1_211) (by decide) (by decide) ?_
      exact retN X0 hx (t := .boolean) Bd.returns (by simp) (hb hby d1_215) k
    · refine XS.icmpNo X0.here hx rfl (hb hby d1_123) rfl (feq hb20).1 ?_
      rw [bz_congr (P := ((cx = (8204 : Int32)) ∨ ((cx = (8205 : Int32)) ∨ (((¬ (cx < (8304 : Int32))) ∧ (¬ ((8591 : Int32) < cx))) ∨ (((¬ (cx < (11264 : Int32))) ∧ (¬ ((12271 : Int32) < cx))) ∨ (((¬ (cx < (12289 : Int32))) ∧ (¬ ((55295 : Int32) < cx))) ∨ (((¬ (cx < (63744 : Int32))) ∧ (¬ ((64975 : Int32) < cx))) ∨ (((¬ (cx < (65008 : Int32))) ∧ (¬ ((65533 : Int32) < cx))) ∨ ((¬ (cx < (65536 : Int32))) ∧ (¬ ((983039 : Int32) < cx))))))))))) (Q := ((cx = (8205 : Int32)) ∨ (((¬ (cx < (8304 : Int32))) ∧ (¬ ((8591 : Int32) < cx))) ∨ (((¬ (cx < (11264 : Int32))) ∧ (¬ ((12271 : Int32) < cx))) ∨ (((¬ (cx < (12289 : Int32))) ∧ (¬ ((55295 : Int32) < cx))) ∨ (((¬ (cx < (63744 : Int32))) ∧ (¬ ((64975 : Int32) < cx))) ∨ (((¬ (cx < (65008 : Int32))) ∧ (¬ ((65533 : Int32) < cx))) ∨ ((¬ (cx < (65536 : Int32))) ∧ (¬ ((983039 : Int32) < cx)))))))))) (or_iff_right hb20)] at k
      show Steps p.tables e below (s₁.setTop (mkF m 126 #[.val (.int cx)] [])) _
      refine XS.iloadN X0.here hx rfl (hb hby d1_126) rfl ?_
      refine XS.sipush X0.here hx rfl (hb hby d1_127) ?_
      exact tl46 fs k
  have tl49 : ∀ fs, (∀ (f : JFrame) (acts : List Action), f.method = m → f.locked = none → f.entered = [] → (doReturn e (s₁.setTop f) acts (some (.int (bz ((¬ ((8191 : Int32) < cx)) ∨ ((cx = (8204 : Int32)) ∨ ((cx = (8205 : Int32)) ∨ (((¬ (cx < (8304 : Int32))) ∧ (¬ ((8591 : Int32) < cx))) ∨ (((¬ (cx < (11264 : Int32))) ∧ (¬ ((12271 : Int32) < cx))) ∨ (((¬ (cx < (12289 : Int32))) ∧ (¬ ((55295 : Int32) < cx))) ∨ (((¬ (cx < (63744 : Int32))) ∧ (¬ ((64975 : Int32) < cx))) ∨ (((¬ (cx < (65008 : Int32))) ∧ (¬ ((65533 : Int32) < cx))) ∨ ((¬ (cx < (65536 : Int32))) ∧ (¬ ((983039 : Int32) < cx))))))))))))))).1 = s₁.setFrames fs) → Steps p.tables e below (s₁.setTop (mkF m 116 #[.val (.int cx)] [(.int (8191 : Int32)), (.int cx)])) (s₁.setFrames fs) := fun fs k => by
    by_cases hb48 : (8191 : Int32) < cx
    · refine XS.icmpNo X0.here hx rfl (hb hby d1_116) rfl (tlt hb48).2.2.2 ?_
      rw [bz_congr (P := ((¬ ((8191 : Int32) < cx)) ∨ ((cx = (8204 : Int32)) ∨ ((cx = (8205 : Int32)) ∨ (((¬ (cx < (8304 : Int32))) ∧ (¬ ((8591 : Int32) < cx))) ∨ (((¬ (cx < (11264 : Int32))) ∧ (¬ ((12271 : Int32) < cx))) ∨ (((¬ (cx < (12289 : Int32))) ∧ (¬ ((55295 : Int32) < cx))) ∨ (((¬ (cx < (63744 : Int32))) ∧ (¬ ((64975 : Int32) < cx))) ∨ (((¬ (cx < (65008 : Int32))) ∧ (¬ ((65533 : Int32) < cx))) ∨ ((¬ (cx < (65536 : Int32))) ∧ (¬ ((983039 : Int32) < cx)))))))))))) (Q := ((cx = (8204 : Int32)) ∨ ((cx = (8205 : Int32)) ∨ (((¬ (cx < (8304 : Int32))) ∧ (¬ ((8591 : Int32) < cx))) ∨ (((¬ (cx < (11264 : Int32))) ∧ (¬ ((12271 : Int32) < cx))) ∨ (((¬ (cx < (12289 : Int32))) ∧ (¬ ((55295 : Int32) < cx))) ∨ (((¬ (cx < (63744 : Int32))) ∧ (¬ ((64975 : Int32) < cx))) ∨ (((¬ (cx < (65008 : Int32))) ∧ (¬ ((65533 : Int32) < cx))) ∨ ((¬ (cx < (65536 : Int32))) ∧ (¬ ((983039 : Int32) < cx))))))))))) (or_iff_right (not_not_intro hb48))] at k
      show Steps p.tables e below (s₁.setTop (mkF m 119 #[.val (.int cx)] [])) _
      refine XS.iloadN X0.here hx rfl (hb hby d1_119) rfl ?_
      refine XS.sipush X0.here hx rfl (hb hby d1_120) ?_
      exact tl47 fs k
    · refine XS.icmpYes X0.here hx rfl (pc0 := 116) (pc' := 210) rfl (hb hby d1_116) rfl (flt hb48).2.2.2 (by decide) (by decide) ?_
      rw [bz_one (P := ((¬ ((8191 : Int32) < cx)) ∨ ((cx = (8204 : Int32)) ∨ ((cx = (8205 : Int32)) ∨ (((¬ (cx < (8304 : Int32))) ∧ (¬ ((8591 : Int32) < cx))) ∨ (((¬ (cx < (11264 : Int32))) ∧ (¬ ((12271 : Int32) < cx))) ∨ (((¬ (cx < (12289 : Int32))) ∧ (¬ ((55295 : Int32) < cx))) ∨ (((¬ (cx < (63744 : Int32))) ∧ (¬ ((64975 : Int32) < cx))) ∨ (((¬ (cx < (65008 : Int32))) ∧ (¬ ((65533 : Int32) < cx))) ∨ ((¬ (cx < (65536 : Int32))) ∧ (¬ ((983039 : Int32) < cx)))))))))))) (iff_true_intro (Or.inl hb48))] at k
      show Steps p.tables e below (s₁.setTop (mkF m 210 #[.val (.int cx)] [])) _
      refine XS.iconst X0.here hx rfl (hb hby d1_210) ?_
      refine XS.goto X0.here hx rfl (pc0 := 211) (pc' := 215) rfl (hb hby d1_211) (by decide) (by decide) ?_
      exact retN X0 hx (t := .boolean) Bd.returns (by simp) (hb hby d1_215) k
  have tl50 : ∀ fs, (∀ (f : JFrame) (acts : List Action), f.method = m → f.locked = none → f.entered = [] → (doReturn e (s₁.setTop f) acts (some (.int (bz (((¬ (cx < (895 : Int32))) ∧ (¬ ((8191 : Int32) < cx))) ∨ ((cx = (8204 : Int32)) ∨ ((cx = (8205 : Int32)) ∨ (((¬ (cx < (8304 : Int32))) ∧ (¬ ((8591 : Int32) < cx))) ∨ (((¬ (cx < (11264 : Int32))) ∧ (¬ ((12271 : Int32) < cx))) ∨ (((¬ (cx < (12289 : Int32))) ∧ (¬ ((55295 : Int32) < cx))) ∨ (((¬ (cx < (63744 : Int32))) ∧ (¬ ((64975 : Int32) < cx))) ∨ (((¬ (cx < (65008 : Int32))) ∧ (¬ ((65533 : Int32) < cx))) ∨ ((¬ (cx < (65536 : Int32))) ∧ (¬ ((983039 : Int32) < cx))))))))))))))).1 = s₁.setFrames fs) → Steps p.tables e below (s₁.setTop (mkF m 109 #[.val (.int cx)] [(.int (895 : Int32)), (.int cx)])) (s₁.setFrames fs) := fun fs k => by
    by_cases hb19 : cx < (895 : Int32)
    · refine XS.icmpYes X0.here hx rfl (pc0 := 109) (pc' := 119) rfl (hb hby d1_109) rfl (tlt hb19).1 (by decide) (by decide) ?_
      rw [bz_congr (P := (((¬ (cx < (895 : Int32))) ∧ (¬ ((8191 : Int32) < cx))) ∨ ((cx = (8204 : Int32)) ∨ ((cx = (8205 : Int32)) ∨ (((¬ (cx < (8304 : Int32))) ∧ (¬ ((8591 : Int32) < cx))) ∨ (((¬ (cx < (11264 : Int32))) ∧ (¬ ((12271 : Int32) < cx))) ∨ (((¬ (cx < (12289 : Int32))) ∧ (¬ ((55295 : Int32) < cx))) ∨ (((¬ (cx < (63744 : Int32))) ∧ (¬ ((64975 : Int32) < cx))) ∨ (((¬ (cx < (65008 : Int32))) ∧ (¬ ((65533 : Int32) < cx))) ∨ ((¬ (cx < (65536 : Int32))) ∧ (¬ ((983039 : Int32) < cx)))))))))))) (Q := ((cx = (8204 : Int32)) ∨ ((cx = (8205 : Int32)) ∨ (((¬ (cx < (8304 : Int32))) ∧ (¬ ((8591 : Int32) < cx))) ∨ (((¬ (cx < (11264 : Int32))) ∧ (¬ ((12271 : Int32) < cx))) ∨ (((¬ (cx < (12289 : Int32))) ∧ (¬ ((55295 : Int32) < cx))) ∨ (((¬ (cx < (63744 : Int32))) ∧ (¬ ((64975 : Int32) < cx))) ∨ (((¬ (cx < (65008 : Int32))) ∧ (¬ ((65533 : Int32) < cx))) ∨ ((¬ (cx < (65536 : Int32))) ∧ (¬ ((983039 : Int32) < cx))))))))))) (or_iff_right (fun q => q.1 hb19))] at k
      show Steps p.tables e below (s₁.setTop (mkF m 119 #[.val (.int cx)] [])) _
      refine XS.iloadN X0.here hx rfl (hb hby d1_119) rfl ?_
      refine XS.sipush X0.here hx rfl (hb hby d1_120) ?_
      exact tl47 fs k
    · refine XS.icmpNo X0.here hx rfl (hb hby d1_109) rfl (flt hb19).1 ?_
      rw [bz_congr (P := (((¬ (cx < (895 : Int32))) ∧ (¬ ((8191 : Int32) < cx))) ∨ ((cx = (8204 : Int32)) ∨ ((cx = (8205 : Int32)) ∨ (((¬ (cx < (8304 : Int32))) ∧ (¬ ((8591 : Int32) < cx))) ∨ (((¬ (cx < (11264 : Int32))) ∧ (¬ ((12271 : Int32) < cx))) ∨ (((¬ (cx < (12289 : Int32))) ∧ (¬ ((55295 : Int32) < cx))) ∨ (((¬ (cx < (63744 : Int32))) ∧ (¬ ((64975 : Int32) < cx))) ∨ (((¬ (cx < (65008 : Int32))) ∧ (¬ ((65533 : Int32) < cx))) ∨ ((¬ (cx < (65536 : Int32))) ∧ (¬ ((983039 : Int32) < cx)))))))))))) (Q := ((¬ ((8191 : Int32) < cx)) ∨ ((cx = (8204 : Int32)) ∨ ((cx = (8205 : Int32)) ∨ (((¬ (cx < (8304 : Int32))) ∧ (¬ ((8591 : Int32) < cx))) ∨ (((¬ (cx < (11264 : Int32))) ∧ (¬ ((12271 : Int32) < cx))) ∨ (((¬ (cx < (12289 : Int32))) ∧ (¬ ((55295 : Int32) < cx))) ∨ (((¬ (cx < (63744 : Int32))) ∧ (¬ ((64975 : Int32) < cx))) ∨ (((¬ (cx < (65008 : Int32))) ∧ (¬ ((65533 : Int32) < cx))) ∨ ((¬ (cx < (65536 : Int32))) ∧ (¬ ((983039 : Int32) < cx)))))))))))) (or_congr (and_iff_right hb19) Iff.rfl)] at k
      show Steps p.tables e below (s₁.setTop (mkF m 112 #[.val (.int cx)] [])) _
      refine XS.iloadN X0.here hx rfl (hb hby d1_112) rfl ?_
      refine XS.sipush X0.here hx rfl (hb hby d1_113) ?_
      exact tl49 fs k
  have tl52 : ∀ fs, (∀ (f : JFrame) (acts : List Action), f.method = m → f.locked = none → f.entered = [] → (doReturn e (s₁.setTop f) acts (some (.int (bz ((¬ ((893 : Int32) < cx)) ∨ (((¬ (cx < (895 : Int32))) ∧ (¬ ((8191 : Int32) < cx))) ∨ ((cx = (8204 : Int32)) ∨ ((cx = (8205 : Int32)) ∨ (((¬ (cx < (8304 : Int32))) ∧ (¬ ((8591 : Int32) < cx))) ∨ (((¬ (cx < (11264 : Int32))) ∧ (¬ ((12271 : Int32) < cx))) ∨ (((¬ (cx < (12289 : Int32))) ∧ (¬ ((55295 : Int32) < cx))) ∨ (((¬ (cx < (63744 : Int32))) ∧ (¬ ((64975 : Int32) < cx))) ∨ (((¬ (cx < (65008 : Int32))) ∧ (¬ ((65533 : Int32) < cx))) ∨ ((¬ (cx < (65536 : Int32))) ∧ (¬ ((983039 : Int32) < cx)))))))))))))))).1 = s₁.setFrames fs) → Steps p.tables e below (s₁.setTop (mkF m 102 #[.val (.int cx)] [(.int (893 : Int32)), (.int cx)])) (s₁.setFrames fs) := fun fs k => by
    by_cases hb51 : (893 : Int32) < cx
    · refine XS.icmpNo X0.here hx rfl (hb hby d1_102) rfl (tlt hb51).2.2.2 ?_
      rw [bz_congr (P := ((¬ ((893 : Int32) < cx)) ∨ (((¬ (cx < (895 : Int32))) ∧ (¬ ((8191 : Int32) < cx))) ∨ ((cx = (8204 : Int32)) ∨ ((cx = (8205 : Int32)) ∨ (((¬ (cx < (8304 : Int32))) ∧ (¬ ((8591 : Int32) < cx))) ∨ (((¬ (cx < (11264 : Int32))) ∧ (¬ ((12271 : Int32) < cx))) ∨ (((¬ (cx < (12289 : Int32))) ∧ (¬ ((55295 : Int32) < cx))) ∨ (((¬ (cx < (63744 : Int32))) ∧ (¬ ((64975 : Int32) < cx))) ∨ (((¬ (cx < (65008 : Int32))) ∧ (¬ ((65533 : Int32) < cx))) ∨ ((¬ (cx < (65536 : Int32))) ∧ (¬ ((983039 : Int32) < cx))))))))))))) (Q := (((¬ (cx < (895 : Int32))) ∧ (¬ ((8191 : Int32) < cx))) ∨ ((cx = (8204 : Int32)) ∨ ((cx = (8205 : Int32)) ∨ (((¬ (cx < (8304 : Int32))) ∧ (¬ ((8591 : Int32) < cx))) ∨ (((¬ (cx < (11264 : Int32))) ∧ (¬ ((12271 : Int32) < cx))) ∨ (((¬ (cx < (12289 : Int32))) ∧ (¬ ((55295 : Int32) < cx))) ∨ (((¬ (cx < (63744 : Int32))) ∧ (¬ ((64975 : Int32) < cx))) ∨ (((¬ (cx < (65008 : Int32))) ∧ (¬ ((65533 : Int32) < cx))) ∨ ((¬ (cx < (65536 : Int32))) ∧ (¬ ((983039 : Int32) < cx)))))))))))) (or_iff_right (not_not_intro hb51))] at k
      show Steps p.tables e below (s₁.setTop (mkF m 105 #[.val (.int cx)] [])) _
      refine XS.iloadN X0.here hx rfl (hb hby d1_105) rfl ?_
      refine XS.sipush X0.here hx rfl (hb hby d1_106) ?_
      exact tl50 fs k
    · refine XS.icmpYes X0.here hx rfl (pc0 := 102) (pc' := 210) rfl (hb hby d1_102) rfl (flt hb51).2.2.2 (by decide) (by decide) ?_
      rw [bz_one (P := ((¬ ((893 : Int32) < cx)) ∨ (((¬ (cx < (895 : Int32))) ∧ (¬ ((8191 : Int32) < cx))) ∨ ((cx = (8204 : Int32)) ∨ ((cx = (8205 : Int32)) ∨ (((¬ (cx < (8304 : Int32))) ∧ (¬ ((8591 : Int32) < cx))) ∨ (((¬ (cx < (11264 : Int32))) ∧ (¬ ((12271 : Int32) < cx))) ∨ (((¬ (cx < (12289 : Int32))) ∧ (¬ ((55295 : Int32) < cx))) ∨ (((¬ (cx < (63744 : Int32))) ∧ (¬ ((64975 : Int32) < cx))) ∨ (((¬ (cx < (65008 : Int32))) ∧ (¬ ((65533 : Int32) < cx))) ∨ ((¬ (cx < (65536 : Int32))) ∧ (¬ ((983039 : Int32) < cx))))))))))))) (iff_true_intro (Or.inl hb51))] at k
      show Steps p.tables e below (s₁.setTop (mkF m 210 #[.val (.int cx)] [])) _
      refine XS.iconst X0.here hx rfl (hb hby d1_210) ?_
      refine XS.goto X0.here hx rfl (pc0 := 211) (pc' := 215) rfl (hb hby d1_211) (by decide) (by decide) ?_
      exact retN X0 hx (t := .boolean) Bd.returns (by simp) (hb hby d1_215) k
  have tl53 : ∀ fs, (∀ (f : JFrame) (acts : List Action), f.method = m → f.locked = none → f.entered = [] → (doReturn e (s₁.setTop f) acts (some (.int (bz (((¬ (cx < (880 : Int32))) ∧ (¬ ((893 : Int32) < cx))) ∨ (((¬ (cx < (895 : Int32))) ∧ (¬ ((8191 : Int32) < cx))) ∨ ((cx = (8204 : Int32)) ∨ ((cx = (8205 : Int32)) ∨ (((¬ (cx < (8304 : Int32))) ∧ (¬ ((8591 : Int32) < cx))) ∨ (((¬ (cx < (11264 : Int32))) ∧ (¬ ((12271 : Int32) < cx))) ∨ (((¬ (cx < (12289 : Int32))) ∧ (¬ ((55295 : Int32) < cx))) ∨ (((¬ (cx < (63744 : Int32))) ∧ (¬ ((64975 : Int32) < cx))) ∨ (((¬ (cx < (65008 : Int32))) ∧ (¬ ((65533 : Int32) < cx))) ∨ ((¬ (cx < (65536 : Int32))) ∧ (¬ ((983039 : Int32) < cx)))))))))))))))).1 = s₁.setFrames fs) → Steps p.tables e below (s₁.setTop (mkF m 95 #[.val (.int cx)] [(.int (880 : Int32)), (.int cx)])) (s₁.setFrames fs) := fun fs k => by
    by_cases hb18 : cx < (880 : Int32)
    · refine XS.icmpYes X0.here hx rfl (pc0 := 95) (pc' := 105) rfl (hb hby d1_95) rfl (tlt hb18).1 (by decide) (by decide) ?_
      rw [bz_congr (P := (((¬ (cx < (880 : Int32))) ∧ (¬ ((893 : Int32) < cx))) ∨ (((¬ (cx < (895 : Int32))) ∧ (¬ ((8191 : Int32) < cx))) ∨ ((cx = (8204 : Int32)) ∨ ((cx = (8205 : Int32)) ∨ (((¬ (cx < (8304 : Int32))) ∧ (¬ ((8591 : Int32) < cx))) ∨ (((¬ (cx < (11264 : Int32))) ∧ (¬ ((12271 : Int32) < cx))) ∨ (((¬ (cx < (12289 : Int32))) ∧ (¬ ((55295 : Int32) < cx))) ∨ (((¬ (cx < (63744 : Int32))) ∧ (¬ ((64975 : Int32) < cx))) ∨ (((¬ (cx < (65008 : Int32))) ∧ (¬ ((65533 : Int32) < cx))) ∨ ((¬ (cx < (65536 : Int32))) ∧ (¬ ((983039 : Int32) < cx))))))))))))) (Q := (((¬ (cx < (895 : Int32))) ∧ (¬ ((8191 : Int32) < cx))) ∨ ((cx = (8204 : Int32)) ∨ ((cx = (8205 : Int32)) ∨ (((¬ (cx < (8304 : Int32))) ∧ (¬ ((8591 : Int32) < cx))) ∨ (((¬ (cx < (11264 : Int32))) ∧ (¬ ((12271 : Int32) < cx))) ∨ (((¬ (cx < (12289 : Int32))) ∧ (¬ ((55295 : Int32) < cx))) ∨ (((¬ (cx < (63744 : Int32))) ∧ (¬ ((64975 : Int32) < cx))) ∨ (((¬ (cx < (65008 : Int32))) ∧ (¬ ((65533 : Int32) < cx))) ∨ ((¬ (cx < (65536 : Int32))) ∧ (¬ ((983039 : Int32) < cx)))))))))))) (or_iff_right (fun q => q.1 hb18))] at k
      show Steps p.tables e below (s₁.setTop (mkF m 105 #[.val (.int cx)] [])) _
      refine XS.iloadN X0.here hx rfl (hb hby d1_105) rfl ?_
      refine XS.sipush X0.here hx rfl (hb hby d1_106) ?_
      exact tl50 fs k
    · refine XS.icmpNo X0.here hx rfl (hb hby d1_95) rfl (flt hb18).1 ?_
      rw [bz_congr (P := (((¬ (cx < (880 : Int32))) ∧ (¬ ((893 : Int32) < cx))) ∨ (((¬ (cx < (895 : Int32))) ∧ (¬ ((8191 : Int32) < cx))) ∨ ((cx = (8204 : Int32)) ∨ ((cx = (8205 : Int32)) ∨ (((¬ (cx < (8304 : Int32))) ∧ (¬ ((8591 : Int32) < cx))) ∨ (((¬ (cx < (11264 : Int32))) ∧ (¬ ((12271 : Int32) < cx))) ∨ (((¬ (cx < (12289 : Int32))) ∧ (¬ ((55295 : Int32) < cx))) ∨ (((¬ (cx < (63744 : Int32))) ∧ (¬ ((64975 : Int32) < cx))) ∨ (((¬ (cx < (65008 : Int32))) ∧ (¬ ((65533 : Int32) < cx))) ∨ ((¬ (cx < (65536 : Int32))) ∧ (¬ ((983039 : Int32) < cx))))))))))))) (Q := ((¬ ((893 : Int32) < cx)) ∨ (((¬ (cx < (895 : Int32))) ∧ (¬ ((8191 : Int32) < cx))) ∨ ((cx = (8204 : Int32)) ∨ ((cx = (8205 : Int32)) ∨ (((¬ (cx < (8304 : Int32))) ∧ (¬ ((8591 : Int32) < cx))) ∨ (((¬ (cx < (11264 : Int32))) ∧ (¬ ((12271 : Int32) < cx))) ∨ (((¬ (cx < (12289 : Int32))) ∧ (¬ ((55295 : Int32) < cx))) ∨ (((¬ (cx < (63744 : Int32))) ∧ (¬ ((64975 : Int32) < cx))) ∨ (((¬ (cx < (65008 : Int32))) ∧ (¬ ((65533 : Int32) < cx))) ∨ ((¬ (cx < (65536 : Int32))) ∧ (¬ ((983039 : Int32) < cx))))))))))))) (or_congr (and_iff_right hb18) Iff.rfl)] at k
      show Steps p.tables e below (s₁.setTop (mkF m 98 #[.val (.int cx)] [])) _
      refine XS.iloadN X0.here hx rfl (hb hby d1_98) rfl ?_
      refine XS.sipush X0.here hx rfl (hb hby d1_99) ?_
      exact tl52 fs k
  have tl55 : ∀ fs, (∀ (f : JFrame) (acts : List Action), f.method = m → f.locked = none → f.entered = [] → (doReturn e (s₁.setTop f) acts (some (.int (bz ((¬ ((767 : Int32) < cx)) ∨ (((¬ (cx < (880 : Int32))) ∧ (¬ ((893 : Int32) < cx))) ∨ (((¬ (cx < (895 : Int32))) ∧ (¬ ((8191 : Int32) < cx))) ∨ ((cx = (8204 : Int32)) ∨ ((cx = (8205 : Int32)) ∨ (((¬ (cx < (8304 : Int32))) ∧ (¬ ((8591 : Int32) < cx))) ∨ (((¬ (cx < (11264 : Int32))) ∧ (¬ ((12271 : Int32) < cx))) ∨ (((¬ (cx < (12289 : Int32))) ∧ (¬ ((55295 : Int32) < cx))) ∨ (((¬ (cx < (63744 : Int32))) ∧ (¬ ((64975 : Int32) < cx))) ∨ (((¬ (cx < (65008 : Int32))) ∧ (¬ ((65533 : Int32) < cx))) ∨ ((¬ (cx < (65536 : Int32))) ∧ (¬ ((983039 : Int32) < cx))))))))))))))))).1 = s₁.setFrames fs) → Steps p.tables e below (s₁.setTop (mkF m 88 #[.val (.int cx)] [(.int (767 : Int32)), (.int cx)])) (s₁.setFrames fs) := fun fs k => by
    by_cases hb54 : (767 : Int32) < cx
    · refine XS.icmpNo X0.here hx rfl (hb hby d1_88) rfl (tlt hb54).2.2.2 ?_
      rw [bz_congr (P := ((¬ ((767 : Int32) < cx)) ∨ (((¬ (cx < (880 : Int32))) ∧ (¬ ((893 : Int32) < cx))) ∨ (((¬ (cx < (895 : Int32))) ∧ (¬ ((8191 : Int32) < cx))) ∨ ((cx = (8204 : Int32)) ∨ ((cx = (8205 : Int32)) ∨ (((¬ (cx < (8304 : Int32))) ∧ (¬ ((8591 : Int32) < cx))) ∨ (((¬ (cx < (11264 : Int32))) ∧ (¬ ((12271 : Int32) < cx))) ∨ (((¬ (cx < (12289 : Int32))) ∧ (¬ ((55295 : Int32) < cx))) ∨ (((¬ (cx < (63744 : Int32))) ∧ (¬ ((64975 : Int32) < cx))) ∨ (((¬ (cx < (65008 : Int32))) ∧ (¬ ((65533 : Int32) < cx))) ∨ ((¬ (cx < (65536 : Int32))) ∧ (¬ ((983039 : Int32) < cx)))))))))))))) (Q := (((¬ (cx < (880 : Int32))) ∧ (¬ ((893 : Int32) < cx))) ∨ (((¬ (cx < (895 : Int32))) ∧ (¬ ((8191 : Int32) < cx))) ∨ ((cx = (8204 : Int32)) ∨ ((cx = (8205 : Int32)) ∨ (((¬ (cx < (8304 : Int32))) ∧ (¬ ((8591 : Int32) < cx))) ∨ (((¬ (cx < (11264 : Int32))) ∧ (¬ ((12271 : Int32) < cx))) ∨ (((¬ (cx < (12289 : Int32))) ∧ (¬ ((55295 : Int32) < cx))) ∨ (((¬ (cx < (63744 : Int32))) ∧ (¬ ((64975 : Int32) < cx))) ∨ (((¬ (cx < (65008 : Int32))) ∧ (¬ ((65533 : Int32) < cx))) ∨ ((¬ (cx < (65536 : Int32))) ∧ (¬ ((983039 : Int32) < cx))))))))))))) (or_iff_right (not_not_intro hb54))] at k
      show Steps p.tables e below (s₁.setTop (mkF m 91 #[.val (.int cx)] [])) _
      refine XS.iloadN X0.here hx rfl (hb hby d1_91) rfl ?_
      refine XS.sipush X0.here hx rfl (hb hby d1_92) ?_
      exact tl53 fs k
    · refine XS.icmpYes X0.here hx rfl (pc0 := 88) (pc' := 210) rfl (hb hby d1_88) rfl (flt hb54).2.2.2 (by decide) (by decide) ?_
      rw [bz_one (P := ((¬ ((767 : Int32) < cx)) ∨ (((¬ (cx < (880 : Int32))) ∧ (¬ ((893 : Int32) < cx))) ∨ (((¬ (cx < (895 : Int32))) ∧ (¬ ((8191 : Int32) < cx))) ∨ ((cx = (8204 : Int32)) ∨ ((cx = (8205 : Int32)) ∨ (((¬ (cx < (8304 : Int32))) ∧ (¬ ((8591 : Int32) < cx))) ∨ (((¬ (cx < (11264 : Int32))) ∧ (¬ ((12271 : Int32) < cx))) ∨ (((¬ (cx < (12289 : Int32))) ∧ (¬ ((55295 : Int32) < cx))) ∨ (((¬ (cx < (63744 : Int32))) ∧ (¬ ((64975 : Int32) < cx))) ∨ (((¬ (cx < (65008 : Int32))) ∧ (¬ ((65533 : Int32) < cx))) ∨ ((¬ (cx < (65536 : Int32))) ∧ (¬ ((983039 : Int32) < cx)))))))))))))) (iff_true_intro (Or.inl hb54))] at k
      show Steps p.tables e below (s₁.setTop (mkF m 210 #[.val (.int cx)] [])) _
      refine XS.iconst X0.here hx rfl (hb hby d1_210) ?_
      refine XS.goto X0.here hx rfl (pc0 := 211) (pc' := 215) rfl (hb hby d1_211) (by decide) (by decide) ?_
      exact retN X0 hx (t := .boolean) Bd.returns (by simp) (hb hby d1_215) k
  have tl56 : ∀ fs, (∀ (f : JFrame) (acts : List Action), f.method = m → f.locked = none → f.entered = [] → (doReturn e (s₁.setTop f) acts (some (.int (bz (((¬ (cx < (248 : Int32))) ∧ (¬ ((767 : Int32) < cx))) ∨ (((¬ (cx < (880 : Int32))) ∧ (¬ ((893 : Int32) < cx))) ∨ (((¬ (cx < (895 : Int32))) ∧ (¬ ((8191 : Int32) < cx))) ∨ ((cx = (8204 : Int32)) ∨ ((cx = (8205 : Int32)) ∨ (((¬ (cx < (8304 : Int32))) ∧ (¬ ((8591 : Int32) < cx))) ∨ (((¬ (cx < (11264 : Int32))) ∧ (¬ ((12271 : Int32) < cx))) ∨ (((¬ (cx < (12289 : Int32))) ∧ (¬ ((55295 : Int32) < cx))) ∨ (((¬ (cx < (63744 : Int32))) ∧ (¬ ((64975 : Int32) < cx))) ∨ (((¬ (cx < (65008 : Int32))) ∧ (¬ ((65533 : Int32) < cx))) ∨ ((¬ (cx < (65536 : Int32))) ∧ (¬ ((983039 : Int32) < cx))))))))))))))))).1 = s₁.setFrames fs) → Steps p.tables e below (s₁.setTop (mkF m 81 #[.val (.int cx)] [(.int (248 : Int32)), (.int cx)])) (s₁.setFrames fs) := fun fs k => by
    by_cases hb17 : cx < (248 : Int32)
    · refine XS.icmpYes X0.here hx rfl (pc0 := 81) (pc' := 91) rfl (hb hby d1_81) rfl (tlt hb17).1 (by decide) (by decide) ?_
      rw [bz_congr (P := (((¬ (cx < (248 : Int32))) ∧ (¬ ((767 : Int32) < cx))) ∨ (((¬ (cx < (880 : Int32))) ∧ (¬ ((893 : Int32) < cx))) ∨ (((¬ (cx < (895 : Int32))) ∧ (¬ ((8191 : Int32) < cx))) ∨ ((cx = (8204 : Int32)) ∨ ((cx = (8205 : Int32)) ∨ (((¬ (cx < (8304 : Int32))) ∧ (¬ ((8591 : Int32) < cx))) ∨ (((¬ (cx < (11264 : Int32))) ∧ (¬ ((12271 : Int32) < cx))) ∨ (((¬ (cx < (12289 : Int32))) ∧ (¬ ((55295 : Int32) < cx))) ∨ (((¬ (cx < (63744 : Int32))) ∧ (¬ ((64975 : Int32) < cx))) ∨ (((¬ (cx < (65008 : Int32))) ∧ (¬ ((65533 : Int32) < cx))) ∨ ((¬ (cx < (65536 : Int32))) ∧ (¬ ((983039 : Int32) < cx)))))))))))))) (Q := (((¬ (cx < (880 : Int32))) ∧ (¬ ((893 : Int32) < cx))) ∨ (((¬ (cx < (895 : Int32))) ∧ (¬ ((8191 : Int32) < cx))) ∨ ((cx = (8204 : Int32)) ∨ ((cx = (8205 : Int32)) ∨ (((¬ (cx < (8304 : Int32))) ∧ (¬ ((8591 : Int32) < cx))) ∨ (((¬ (cx < (11264 : Int32))) ∧ (¬ ((12271 : Int32) < cx))) ∨ (((¬ (cx < (12289 : Int32))) ∧ (¬ ((55295 : Int32) < cx))) ∨ (((¬ (cx < (63744 : Int32))) ∧ (¬ ((64975 : Int32) < cx))) ∨ (((¬ (cx < (65008 : Int32))) ∧ (¬ ((65533 : Int32) < cx))) ∨ ((¬ (cx < (65536 : Int32))) ∧ (¬ ((983039 : Int32) < cx))))))))))))) (or_iff_right (fun q => q.1 hb17))] at k
      show Steps p.tables e below (s₁.setTop (mkF m 91 #[.val (.int cx)] [])) _
      refine XS.iloadN X0.here hx rfl (hb hby d1_91) rfl ?_
      refine XS.sipush X0.here hx rfl (hb hby d1_92) ?_
      exact tl53 fs k
    · refine XS.icmpNo X0.here hx rfl (hb hby d1_81) rfl (flt hb17).1 ?_
      rw [bz_congr (P := (((¬ (cx < (248 : Int32))) ∧ (¬ ((767 : Int32) < cx))) ∨ (((¬ (cx < (880 : Int32))) ∧ (¬ ((893 : Int32) < cx))) ∨ (((¬ (cx < (895 : Int32))) ∧ (¬ ((8191 : Int32) < cx))) ∨ ((cx = (8204 : Int32)) ∨ ((cx = (8205 : Int32)) ∨ (((¬ (cx < (8304 : Int32))) ∧ (¬ ((8591 : Int32) < cx))) ∨ (((¬ (cx < (11264 : Int32))) ∧ (¬ ((12271 : Int32) < cx))) ∨ (((¬ (cx < (12289 : Int32))) ∧ (¬ ((55295 : Int32) < cx))) ∨ (((¬ (cx < (63744 : Int32))) ∧ (¬ ((64975 : Int32) < cx))) ∨ (((¬ (cx < (65008 : Int32))) ∧ (¬ ((65533 : Int32) < cx))) ∨ ((¬ (cx < (65536 : Int32))) ∧ (¬ ((983039 : Int32) < cx)))))))))))))) (Q := ((¬ ((767 : Int32) < cx)) ∨ (((¬ (cx < (880 : Int32))) ∧ (¬ ((893 : Int32) < cx))) ∨ (((¬ (cx < (895 : Int32))) ∧ (¬ ((8191 : Int32) < cx))) ∨ ((cx = (8204 : Int32)) ∨ ((cx = (8205 : Int32)) ∨ (((¬ (cx < (8304 : Int32))) ∧ (¬ ((8591 : Int32) < cx))) ∨ (((¬ (cx < (11264 : Int32))) ∧ (¬ ((12271 : Int32) < cx))) ∨ (((¬ (cx < (12289 : Int32))) ∧ (¬ ((55295 : Int32) < cx))) ∨ (((¬ (cx < (63744 : Int32))) ∧ (¬ ((64975 : Int32) < cx))) ∨ (((¬ (cx < (65008 : Int32))) ∧ (¬ ((65533 : Int32) < cx))) ∨ ((¬ (cx < (65536 : Int32))) ∧ (¬ ((983039 : Int32) < cx)))))))))))))) (or_congr (and_iff_right hb17) Iff.rfl)] at k
      show Steps p.tables e below (s₁.setTop (mkF m 84 #[.val (.int cx)] [])) _
      refine XS.iloadN X0.here hx rfl (hb hby d1_84) rfl ?_
      refine XS.sipush X0.here hx rfl (hb hby d1_85) ?_
      exact tl55 fs k
  have tl58 : ∀ fs, (∀ (f : JFrame) (acts : List Action), f.method = m → f.locked = none → f.entered = [] → (doReturn e (s₁.setTop f) acts (some (.int (bz ((¬ ((246 : Int32) < cx)) ∨ (((¬ (cx < (248 : Int32))) ∧ (¬ ((767 : Int32) < cx))) ∨ (((¬ (cx < (880 : Int32))) ∧ (¬ ((893 : Int32) < cx))) ∨ (((¬ (cx < (895 : Int32))) ∧ (¬ ((8191 : Int32) < cx))) ∨ ((cx = (8204 : Int32)) ∨ ((cx = (8205 : Int32)) ∨ (((¬ (cx < (8304 : Int32))) ∧ (¬ ((8591 : Int32) < cx))) ∨ (((¬ (cx < (11264 : Int32))) ∧ (¬ ((12271 : Int32) < cx))) ∨ (((¬ (cx < (12289 : Int32))) ∧ (¬ ((55295 : Int32) < cx))) ∨ (((¬ (cx < (63744 : Int32))) ∧ (¬ ((64975 : Int32) < cx))) ∨ (((¬ (cx < (65008 : Int32))) ∧ (¬ ((65533 : Int32) < cx))) ∨ ((¬ (cx < (65536 : Int32))) ∧ (¬ ((983039 : Int32) < cx)))))))))))))))))).1 = s₁.setFrames fs) → Steps p.tables e below (s₁.setTop (mkF m 74 #[.val (.int cx)] [(.int (246 : Int32)), (.int cx)])) (s₁.setFrames fs) := fun fs k => by
    by_cases hb57 : (246 : Int32) < cx
    · refine XS.icmpNo X0.here hx rfl (hb hby d1_74) rfl (tlt hb57).2.2.2 ?_
      rw [bz_congr (P := ((¬ ((246 : Int32) < cx)) ∨ (((¬ (cx < (248 : Int32))) ∧ (¬ ((767 : Int32) < cx))) ∨ (((¬ (cx < (880 : Int32))) ∧ (¬ ((893 : Int32) < cx))) ∨ (((¬ (cx < (895 : Int32))) ∧ (¬ ((8191 : Int32) < cx))) ∨ ((cx = (8204 : Int32)) ∨ ((cx = (8205 : Int32)) ∨ (((¬ (cx < (8304 : Int32))) ∧ (¬ ((8591 : Int32) < cx))) ∨ (((¬ (cx < (11264 : Int32))) ∧ (¬ ((12271 : Int32) < cx))) ∨ (((¬ (cx < (12289 : Int32))) ∧ (¬ ((55295 : Int32) < cx))) ∨ (((¬ (cx < (63744 : Int32))) ∧ (¬ ((64975 : Int32) < cx))) ∨ (((¬ (cx < (65008 : Int32))) ∧ (¬ ((65533 : Int32) < cx))) ∨ ((¬ (cx < (65536 : Int32))) ∧ (¬ ((983039 : Int32) < cx))))))))))))))) (Q := (((¬ (cx < (248 : Int32))) ∧ (¬ ((767 : Int32) < cx))) ∨ (((¬ (cx < (880 : Int32))) ∧ (¬ ((893 : Int32) < cx))) ∨ (((¬ (cx < (895 : Int32))) ∧ (¬ ((8191 : Int32) < cx))) ∨ ((cx = (8204 : Int32)) ∨ ((cx = (8205 : Int32)) ∨ (((¬ (cx < (8304 : Int32))) ∧ (¬ ((8591 : Int32) < cx))) ∨ (((¬ (cx < (11264 : Int32))) ∧ (¬ ((12271 : Int32) < cx))) ∨ (((¬ (cx < (12289 : Int32))) ∧ (¬ ((55295 : Int32) < cx))) ∨ (((¬ (cx < (63744 : Int32))) ∧ (¬ ((64975 : Int32) < cx))) ∨ (((¬ (cx < (65008 : Int32))) ∧ (¬ ((65533 : Int32) < cx))) ∨ ((¬ (cx < (65536 : Int32))) ∧ (¬ ((983039 : Int32) < cx)))))))))))))) (or_iff_right (not_not_intro hb57))] at k
      show Steps p.tables e below (s₁.setTop (mkF m 77 #[.val (.int cx)] [])) _
      refine XS.iloadN X0.here hx rfl (hb hby d1_77) rfl ?_
      refine XS.sipush X0.here hx rfl (hb hby d1_78) ?_
      exact tl56 fs k
    · refine XS.icmpYes X0.here hx rfl (pc0 := 74) (pc' := 210) rfl (hb hby d1_74) rfl (flt hb57).2.2.2 (by decide) (by decide) ?_
      rw [bz_one (P := ((¬ ((246 : Int32) < cx)) ∨ (((¬ (cx < (248 : Int32))) ∧ (¬ ((767 : Int32) < cx))) ∨ (((¬ (cx < (880 : Int32))) ∧ (¬ ((893 : Int32) < cx))) ∨ (((¬ (cx < (895 : Int32))) ∧ (¬ ((8191 : Int32) < cx))) ∨ ((cx = (8204 : Int32)) ∨ ((cx = (8205 : Int32)) ∨ (((¬ (cx < (8304 : Int32))) ∧ (¬ ((8591 : Int32) < cx))) ∨ (((¬ (cx < (11264 : Int32))) ∧ (¬ ((12271 : Int32) < cx))) ∨ (((¬ (cx < (12289 : Int32))) ∧ (¬ ((55295 : Int32) < cx))) ∨ (((¬ (cx < (63744 : Int32))) ∧ (¬ ((64975 : Int32) < cx))) ∨ (((¬ (cx < (65008 : Int32))) ∧ (¬ ((65533 : Int32) < cx))) ∨ ((¬ (cx < (65536 : Int32))) ∧ (¬ ((983039 : Int32) < cx))))))))))))))) (iff_true_intro (Or.inl hb57))] at k
      show Steps p.tables e below (s₁.setTop (mkF m 210 #[.val (.int cx)] [])) _
      refine XS.iconst X0.here hx rfl (hb hby d1_210) ?_
      refine XS.goto X0.here hx rfl (pc0 := 211) (pc' := 215) rfl (hb hby d1_211) (by decide) (by decide) ?_
      exact retN X0 hx (t := .boolean) Bd.returns (by simp) (hb hby d1_215) k
  have tl59 : ∀ fs, (∀ (f : JFrame) (acts : List Action), f.method = m → f.locked = none → f.entered = [] → (doReturn e (s₁.setTop f) acts (some (.int (bz (((¬ (cx < (216 : Int32))) ∧ (¬ ((246 : Int32) < cx))) ∨ (((¬ (cx < (248 : Int32))) ∧ (¬ ((767 : Int32) < cx))) ∨ (((¬ (cx < (880 : Int32))) ∧ (¬ ((893 : Int32) < cx))) ∨ (((¬ (cx < (895 : Int32))) ∧ (¬ ((8191 : Int32) < cx))) ∨ ((cx = (8204 : Int32)) ∨ ((cx = (8205 : Int32)) ∨ (((¬ (cx < (8304 : Int32))) ∧ (¬ ((8591 : Int32) < cx))) ∨ (((¬ (cx < (11264 : Int32))) ∧ (¬ ((12271 : Int32) < cx))) ∨ (((¬ (cx < (12289 : Int32))) ∧ (¬ ((55295 : Int32) < cx))) ∨ (((¬ (cx < (63744 : Int32))) ∧ (¬ ((64975 : Int32) < cx))) ∨ (((¬ (cx < (65008 : Int32))) ∧ (¬ ((65533 : Int32) < cx))) ∨ ((¬ (cx < (65536 : Int32))) ∧ (¬ ((983039 : Int32) < cx)))))))))))))))))).1 = s₁.setFrames fs) → Steps p.tables e below (s₁.setTop (mkF m 67 #[.val (.int cx)] [(.int (216 : Int32)), (.int cx)])) (s₁.setFrames fs) := fun fs k => by
    by_cases hb16 : cx < (216 : Int32)
    · refine XS.icmpYes X0.here hx rfl (pc0 := 67) (pc' := 77) rfl (hb hby d1_67) rfl (tlt hb16).1 (by decide) (by decide) ?_
      rw [bz_congr (P := (((¬ (cx < (216 : Int32))) ∧ (¬ ((246 : Int32) < cx))) ∨ (((¬ (cx < (248 : Int32))) ∧ (¬ ((767 : Int32) < cx))) ∨ (((¬ (cx < (880 : Int32))) ∧ (¬ ((893 : Int32) < cx))) ∨ (((¬ (cx < (895 : Int32))) ∧ (¬ ((8191 : Int32) < cx))) ∨ ((cx = (8204 : Int32)) ∨ ((cx = (8205 : Int32)) ∨ (((¬ (cx < (8304 : Int32))) ∧ (¬ ((8591 : Int32) < cx))) ∨ (((¬ (cx < (11264 : Int32))) ∧ (¬ ((12271 : Int32) < cx))) ∨ (((¬ (cx < (12289 : Int32))) ∧ (¬ ((55295 : Int32) < cx))) ∨ (((¬ (cx < (63744 : Int32))) ∧ (¬ ((64975 : Int32) < cx))) ∨ (((¬ (cx < (65008 : Int32))) ∧ (¬ ((65533 : Int32) < cx))) ∨ ((¬ (cx < (65536 : Int32))) ∧ (¬ ((983039 : Int32) < cx))))))))))))))) (Q := (((¬ (cx < (248 : Int32))) ∧ (¬ ((767 : Int32) < cx))) ∨ (((¬ (cx < (880 : Int32))) ∧ (¬ ((893 : Int32) < cx))) ∨ (((¬ (cx < (895 : Int32))) ∧ (¬ ((8191 : Int32) < cx))) ∨ ((cx = (8204 : Int32)) ∨ ((cx = (8205 : Int32)) ∨ (((¬ (cx < (8304 : Int32))) ∧ (¬ ((8591 : Int32) < cx))) ∨ (((¬ (cx < (11264 : Int32))) ∧ (¬ ((12271 : Int32) < cx))) ∨ (((¬ (cx < (12289 : Int32))) ∧ (¬ ((55295 : Int32) < cx))) ∨ (((¬ (cx < (63744 : Int32))) ∧ (¬ ((64975 : Int32) < cx))) ∨ (((¬ (cx < (65008 : Int32))) ∧ (¬ ((65533 : Int32) < cx))) ∨ ((¬ (cx < (65536 : Int32))) ∧ (¬ ((983039 : Int32) < cx)))))))))))))) (or_iff_right (fun q => q.1 hb16))] at k
      show Steps p.tables e below (s₁.setTop (mkF m 77 #[.val (.int cx)] [])) _
      refine XS.iloadN X0.here hx rfl (hb hby d1_77) rfl ?_
      refine XS.sipush X0.here hx rfl (hb hby d1_78) ?_
      exact tl56 fs k
    · refine XS.icmpNo X0.here hx rfl (hb hby d1_67) rfl (flt hb16).1 ?_
      rw [bz_congr (P := (((¬ (cx < (216 : Int32))) ∧ (¬ ((246 : Int32) < cx))) ∨ (((¬ (cx < (248 : Int32))) ∧ (¬ ((767 : Int32) < cx))) ∨ (((¬ (cx < (880 : Int32))) ∧ (¬ ((893 : Int32) < cx))) ∨ (((¬ (cx < (895 : Int32))) ∧ (¬ ((8191 : Int32) < cx))) ∨ ((cx = (8204 : Int32)) ∨ ((cx = (8205 : Int32)) ∨ (((¬ (cx < (8304 : Int32))) ∧ (¬ ((8591 : Int32) < cx))) ∨ (((¬ (cx < (11264 : Int32))) ∧ (¬ ((12271 : Int32) < cx))) ∨ (((¬ (cx < (12289 : Int32))) ∧ (¬ ((55295 : Int32) < cx))) ∨ (((¬ (cx < (63744 : Int32))) ∧ (¬ ((64975 : Int32) < cx))) ∨ (((¬ (cx < (65008 : Int32))) ∧ (¬ ((65533 : Int32) < cx))) ∨ ((¬ (cx < (65536 : Int32))) ∧ (¬ ((983039 : Int32) < cx))))))))))))))) (Q := ((¬ ((246 : Int32) < cx)) ∨ (((¬ (cx < (248 : Int32))) ∧ (¬ ((767 : Int32) < cx))) ∨ (((¬ (cx < (880 : Int32))) ∧ (¬ ((893 : Int32) < cx))) ∨ (((¬ (cx < (895 : Int32))) ∧ (¬ ((8191 : Int32) < cx))) ∨ ((cx = (8204 : Int32)) ∨ ((cx = (8205 : Int32)) ∨ (((¬ (cx < (8304 : Int32))) ∧ (¬ ((8591 : Int32) < cx))) ∨ (((¬ (cx < (11264 : Int32))) ∧ (¬ ((12271 : Int32) < cx))) ∨ (((¬ (cx < (12289 : Int32))) ∧ (¬ ((55295 : Int32) < cx))) ∨ (((¬ (cx < (63744 : Int32))) ∧ (¬ ((64975 : Int32) < cx))) ∨ (((¬ (cx < (65008 : Int32))) ∧ (¬ ((65533 : Int32) < cx))) ∨ ((¬ (cx < (65536 : Int32))) ∧ (¬ ((983039 : Int32) < cx))))))))))))))) (or_congr (and_iff_right hb16) Iff.rfl)] at k
      show Steps p.tables e below (s₁.setTop (mkF m 70 #[.val (.int cx)] [])) _
      refine XS.iloadN X0.here hx rfl (hb hby d1_70) rfl ?_
      refine XS.sipush X0.here hx rfl (hb hby d1_71) ?_
      exact tl58 fs k
  have tl61 : ∀ fs, (∀ (f : JFrame) (acts : List Action), f.method = m → f.locked = none → f.entered = [] → (doReturn e (s₁.setTop f) acts (some (.int (bz ((¬ ((214 : Int32) < cx)) ∨ (((¬ (cx < (216 : Int32))) ∧ (¬ ((246 : Int32) < cx))) ∨ (((¬ (cx < (248 : Int32))) ∧ (¬ ((767 : Int32) < cx))) ∨ (((¬ (cx < (880 : Int32))) ∧ (¬ ((893 : Int32) < cx))) ∨ (((¬ (cx < (895 : Int32))) ∧ (¬ ((8191 : Int32) < cx))) ∨ ((cx = (8204 : Int32)) ∨ ((cx = (8205 : Int32)) ∨ (((¬ (cx < (8304 : Int32))) ∧ (¬ ((8591 : Int32) < cx))) ∨ (((¬ (cx < (11264 : Int32))) ∧ (¬ ((12271 : Int32) < cx))) ∨ (((¬ (cx < (12289 : Int32))) ∧ (¬ ((55295 : Int32) < cx))) ∨ (((¬ (cx < (63744 : Int32))) ∧ (¬ ((64975 : Int32) < cx))) ∨ (((¬ (cx < (65008 : Int32))) ∧ (¬ ((65533 : Int32) < cx))) ∨ ((¬ (cx < (65536 : Int32))) ∧ (¬ ((983039 : Int32) < cx))))))))))))))))))).1 = s₁.setFrames fs) → Steps p.tables e below (s₁.setTop (mkF m 60 #[.val (.int cx)] [(.int (214 : Int32)), (.int cx)])) (s₁.setFrames fs) := fun fs k => by
    by_cases hb60 : (214 : Int32) < cx
    · refine XS.icmpNo X0.here hx rfl (hb hby d1_60) rfl (tlt hb60).2.2.2 ?_
      rw [bz_congr (P := ((¬ ((214 : Int32) < cx)) ∨ (((¬ (cx < (216 : Int32))) ∧ (¬ ((246 : Int32) < cx))) ∨ (((¬ (cx < (248 : Int32))) ∧ (¬ ((767 : Int32) < cx))) ∨ (((¬ (cx < (880 : Int32))) ∧ (¬ ((893 : Int32) < cx))) ∨ (((¬ (cx < (895 : Int32))) ∧ (¬ ((8191 : Int32) < cx))) ∨ ((cx = (8204 : Int32)) ∨ ((cx = (8205 : Int32)) ∨ (((¬ (cx < (8304 : Int32))) ∧ (¬ ((8591 : Int32) < cx))) ∨ (((¬ (cx < (11264 : Int32))) ∧ (¬ ((12271 : Int32) < cx))) ∨ (((¬ (cx < (12289 : Int32))) ∧ (¬ ((55295 : Int32) < cx))) ∨ (((¬ (cx < (63744 : Int32))) ∧ (¬ ((64975 : Int32) < cx))) ∨ (((¬ (cx < (65008 : Int32))) ∧ (¬ ((65533 : Int32) < cx))) ∨ ((¬ (cx < (65536 : Int32))) ∧ (¬ ((983039 : Int32) < cx)))))))))))))))) (Q := (((¬ (cx < (216 : Int32))) ∧ (¬ ((246 : Int32) < cx))) ∨ (((¬ (cx < (248 : Int32))) ∧ (¬ ((767 : Int32) < cx))) ∨ (((¬ (cx < (880 : Int32))) ∧ (¬ ((893 : Int32) < cx))) ∨ (((¬ (cx < (895 : Int32))) ∧ (¬ ((8191 : Int32) < cx))) ∨ ((cx = (8204 : Int32)) ∨ ((cx = (8205 : Int32)) ∨ (((¬ (cx < (8304 : Int32))) ∧ (¬ ((8591 : Int32) < cx))) ∨ (((¬ (cx < (11264 : Int32))) ∧ (¬ ((12271 : Int32) < cx))) ∨ (((¬ (cx < (12289 : Int32))) ∧ (¬ ((55295 : Int32) < cx))) ∨ (((¬ (cx < (63744 : Int32))) ∧ (¬ ((64975 : Int32) < cx))) ∨ (((¬ (cx < (65008 : Int32))) ∧ (¬ ((65533 : Int32) < cx))) ∨ ((¬ (cx < (65536 : Int32))) ∧ (¬ ((983039 : Int32) < cx))))))))))))))) (or_iff_right (not_not_intro hb60))] at k
      show Steps p.tables e below (s₁.setTop (mkF m 63 #[.val (.int cx)] [])) _
      refine XS.iloadN X0.here hx rfl (hb hby d1_63) rfl ?_
      refine XS.sipush X0.here hx rfl (hb hby d1_64) ?_
      exact tl59 fs k
    · refine XS.icmpYes X0.here hx rfl (pc0 := 60) (pc' := 210) rfl (hb hby d1_60) rfl (flt hb60).2.2.2 (by decide) (by decide) ?_
      rw [bz_one (P := ((¬ ((214 : Int32) < cx)) ∨ (((¬ (cx < (216 : Int32))) ∧ (¬ ((246 : Int32) < cx))) ∨ (((¬ (cx < (248 : Int32))) ∧ (¬ ((767 : Int32) < cx))) ∨ (((¬ (cx < (880 : Int32))) ∧ (¬ ((893 : Int32) < cx))) ∨ (((¬ (cx < (895 : Int32))) ∧ (¬ ((8191 : Int32) < cx))) ∨ ((cx = (8204 : Int32)) ∨ ((cx = (8205 : Int32)) ∨ (((¬ (cx < (8304 : Int32))) ∧ (¬ ((8591 : Int32) < cx))) ∨ (((¬ (cx < (11264 : Int32))) ∧ (¬ ((12271 : Int32) < cx))) ∨ (((¬ (cx < (12289 : Int32))) ∧ (¬ ((55295 : Int32) < cx))) ∨ (((¬ (cx < (63744 : Int32))) ∧ (¬ ((64975 : Int32) < cx))) ∨ (((¬ (cx < (65008 : Int32))) ∧ (¬ ((65533 : Int32) < cx))) ∨ ((¬ (cx < (65536 : Int32))) ∧ (¬ ((983039 : Int32) < cx)))))))))))))))) (iff_true_intro (Or.inl hb60))] at k
      show Steps p.tables e below (s₁.setTop (mkF m 210 #[.val (.int cx)] [])) _
      refine XS.iconst X0.here hx rfl (hb hby d1_210) ?_
      refine XS.goto X0.here hx rfl (pc0 := 211) (pc' := 215) rfl (hb hby d1_211) (by decide) (by decide) ?_
      exact retN X0 hx (t := .boolean) Bd.returns (by simp) (hb hby d1_215) k
  have tl62 : ∀ fs, (∀ (f : JFrame) (acts : List Action), f.method = m → f.locked = none → f.entered = [] → (doReturn e (s₁.setTop f) acts (some (.int (bz (((¬ (cx < (192 : Int32))) ∧ (¬ ((214 : Int32) < cx))) ∨ (((¬ (cx < (216 : Int32))) ∧ (¬ ((246 : Int32) < cx))) ∨ (((¬ (cx < (248 : Int32))) ∧ (¬ ((767 : Int32) < cx))) ∨ (((¬ (cx < (880 : Int32))) ∧ (¬ ((893 : Int32) < cx))) ∨ (((¬ (cx < (895 : Int32))) ∧ (¬ ((8191 : Int32) < cx))) ∨ ((cx = (8204 : Int32)) ∨ ((cx = (8205 : Int32)) ∨ (((¬ (cx < (8304 : Int32))) ∧ (¬ ((8591 : Int32) < cx))) ∨ (((¬ (cx < (11264 : Int32))) ∧ (¬ ((12271 : Int32) < cx))) ∨ (((¬ (cx < (12289 : Int32))) ∧ (¬ ((55295 : Int32) < cx))) ∨ (((¬ (cx < (63744 : Int32))) ∧ (¬ ((64975 : Int32) < cx))) ∨ (((¬ (cx < (65008 : Int32))) ∧ (¬ ((65533 : Int32) < cx))) ∨ ((¬ (cx < (65536 : Int32))) ∧ (¬ ((983039 : Int32) < cx))))))))))))))))))).1 = s₁.setFrames fs) → Steps p.tables e below (s₁.setTop (mkF m 53 #[.val (.int cx)] [(.int (192 : Int32)), (.int cx)])) (s₁.setFrames fs) := fun fs k => by
    by_cases hb15 : cx < (192 : Int32)
    · refine XS.icmpYes X0.here hx rfl (pc0 := 53) (pc' := 63) rfl (hb hby d1_53) rfl (tlt hb15).1 (by decide) (by decide) ?_
      rw [bz_congr (P := (((¬ (cx < (192 : Int32))) ∧ (¬ ((214 : Int32) < cx))) ∨ (((¬ (cx < (216 : Int32))) ∧ (¬ ((246 : Int32) < cx))) ∨ (((¬ (cx < (248 : Int32))) ∧ (¬ ((767 : Int32) < cx))) ∨ (((¬ (cx < (880 : Int32))) ∧ (¬ ((893 : Int32) < cx))) ∨ (((¬ (cx < (895 : Int32))) ∧ (¬ ((8191 : Int32) < cx))) ∨ ((cx = (8204 : Int32)) ∨ ((cx = (8205 : Int32)) ∨ (((¬ (cx < (8304 : Int32))) ∧ (¬ ((8591 : Int32) < cx))) ∨ (((¬ (cx < (11264 : Int32))) ∧ (¬ ((12271 : Int32) < cx))) ∨ (((¬ (cx < (12289 : Int32))) ∧ (¬ ((55295 : Int32) < cx))) ∨ (((¬ (cx < (63744 : Int32))) ∧ (¬ ((64975 : Int32) < cx))) ∨ (((¬ (cx < (65008 : Int32))) ∧ (¬ ((65533 : Int32) < cx))) ∨ ((¬ (cx < (65536 : Int32))) ∧ (¬ ((983039 : Int32) < cx)))))))))))))))) (Q := (((¬ (cx < (216 : Int32))) ∧ (¬ ((246 : Int32) < cx))) ∨ (((¬ (cx < (248 : Int32))) ∧ (¬ ((767 : Int32) < cx))) ∨ (((¬ (cx < (880 : Int32))) ∧ (¬ ((893 : Int32) < cx))) ∨ (((¬ (cx < (895 : Int32))) ∧ (¬ ((8191 : Int32) < cx))) ∨ ((cx = (8204 : Int32)) ∨ ((cx = (8205 : Int32)) ∨ (((¬ (cx < (8304 : Int32))) ∧ (¬ ((8591 : Int32) < cx))) ∨ (((¬ (cx < (11264 : Int32))) ∧ (¬ ((12271 : Int32) < cx))) ∨ (((¬ (cx < (12289 : Int32))) ∧ (¬ ((55295 : Int32) < cx))) ∨ (((¬ (cx < (63744 : Int32))) ∧ (¬ ((64975 : Int32) < cx))) ∨ (((¬ (cx < (65008 : Int32))) ∧ (¬ ((65533 : Int32) < cx))) ∨ ((¬ (cx < (65536 : Int32))) ∧ (¬ ((983039 : Int32) < cx))))))))))))))) (or_iff_right (fun q => q.1 hb15))] at k
      show Steps p.tables e below (s₁.setTop (mkF m 63 #[.val (.int cx)] [])) _
      refine XS.iloadN X0.here hx rfl (hb hby d1_63) rfl ?_
      refine XS.sipush X0.here hx rfl (hb hby d1_64) ?_
      exact tl59 fs k
    · refine XS.icmpNo X0.here hx rfl (hb hby d1_53) rfl (flt hb15).1 ?_
      rw [bz_congr (P := (((¬ (cx < (192 : Int32))) ∧ (¬ ((214 : Int32) < cx))) ∨ (((¬ (cx < (216 : Int32))) ∧ (¬ ((246 : Int32) < cx))) ∨ (((¬ (cx < (248 : Int32))) ∧ (¬ ((767 : Int32) < cx))) ∨ (((¬ (cx < (880 : Int32))) ∧ (¬ ((893 : Int32) < cx))) ∨ (((¬ (cx < (895 : Int32))) ∧ (¬ ((8191 : Int32) < cx))) ∨ ((cx = (8204 : Int32)) ∨ ((cx = (8205 : Int32)) ∨ (((¬ (cx < (8304 : Int32))) ∧ (¬ ((8591 : Int32) < cx))) ∨ (((¬ (cx < (11264 : Int32))) ∧ (¬ ((12271 : Int32) < cx))) ∨ (((¬ (cx < (12289 : Int32))) ∧ (¬ ((55295 : Int32) < cx))) ∨ (((¬ (cx < (63744 : Int32))) ∧ (¬ ((64975 : Int32) < cx))) ∨ (((¬ (cx < (65008 : Int32))) ∧ (¬ ((65533 : Int32) < cx))) ∨ ((¬ (cx < (65536 : Int32))) ∧ (¬ ((983039 : Int32) < cx)))))))))))))))) (Q := ((¬ ((214 : Int32) < cx)) ∨ (((¬ (cx < (216 : Int32))) ∧ (¬ ((246 : Int32) < cx))) ∨ (((¬ (cx < (248 : Int32))) ∧ (¬ ((767 : Int32) < cx))) ∨ (((¬ (cx < (880 : Int32))) ∧ (¬ ((893 : Int32) < cx))) ∨ (((¬ (cx < (895 : Int32))) ∧ (¬ ((8191 : Int32) < cx))) ∨ ((cx = (8204 : Int32)) ∨ ((cx = (8205 : Int32)) ∨ (((¬ (cx < (8304 : Int32))) ∧ (¬ ((8591 : Int32) < cx))) ∨ (((¬ (cx < (11264 : Int32))) ∧ (¬ ((12271 : Int32) < cx))) ∨ (((¬ (cx < (12289 : Int32))) ∧ (¬ ((55295 : Int32) < cx))) ∨ (((¬ (cx < (63744 : Int32))) ∧ (¬ ((64975 : Int32) < cx))) ∨ (((¬ (cx < (65008 : Int32))) ∧ (¬ ((65533 : Int32) < cx))) ∨ ((¬ (cx < (65536 : Int32))) ∧ (¬ ((983039 : Int32) < cx)))))))))))))))) (or_congr (and_iff_right hb15) Iff.rfl)] at k
      show Steps p.tables e below (s₁.setTop (mkF m 56 #[.val (.int cx)] [])) _
      refine XS.iloadN X0.here hx rfl (hb hby d1_56) rfl ?_
      refine XS.sipush X0.here hx rfl (hb hby d1_57) ?_
      exact tl61 fs k
  have tl63 : ∀ fs, (∀ (f : JFrame) (acts : List Action), f.method = m → f.locked = none → f.entered = [] → (doReturn e (s₁.setTop f) acts (some (.int (bz (if cx < (128 : Int32) then (((¬ (cx < (97 : Int32))) ∧ (¬ ((122 : Int32) < cx))) ∨ (((¬ (cx < (65 : Int32))) ∧ (¬ ((90 : Int32) < cx))) ∨ ((cx = (95 : Int32)) ∨ (cx = (58 : Int32))))) else (((¬ (cx < (192 : Int32))) ∧ (¬ ((214 : Int32) < cx))) ∨ (((¬ (cx < (216 : Int32))) ∧ (¬ ((246 : Int32) < cx))) ∨ (((¬ (cx < (248 : Int32))) ∧ (¬ ((767 : Int32) < cx))) ∨ (((¬ (cx < (880 : Int32))) ∧ (¬ ((893 : Int32) < cx))) ∨ (((¬ (cx < (895 : Int32))) ∧ (¬ ((8191 : Int32) < cx))) ∨ ((cx = (8204 : Int32)) ∨ ((cx = (8205 : Int32)) ∨ (((¬ (cx < (8304 : Int32))) ∧ (¬ ((8591 : Int32) < cx))) ∨ (((¬ (cx < (11264 : Int32))) ∧ (¬ ((12271 : Int32) < cx))) ∨ (((¬ (cx < (12289 : Int32))) ∧ (¬ ((55295 : Int32) < cx))) ∨ (((¬ (cx < (63744 : Int32))) ∧ (¬ ((64975 : Int32) < cx))) ∨ (((¬ (cx < (65008 : Int32))) ∧ (¬ ((65533 : Int32) < cx))) ∨ ((¬ (cx < (65536 : Int32))) ∧ (¬ ((983039 : Int32) < cx)))))))))))))))))))).1 = s₁.setFrames fs) → Steps p.tables e below (s₁.setTop (mkF m 4 #[.val (.int cx)] [(.int (128 : Int32)), (.int cx)])) (s₁.setFrames fs) := fun fs k => by
    by_cases hb2 : cx < (128 : Int32)
    · refine XS.icmpNo X0.here hx rfl (hb hby d1_4) rfl (tlt hb2).2.1 ?_
      rw [bz_congr (P := (if cx < (128 : Int32) then (((¬ (cx < (97 : Int32))) ∧ (¬ ((122 : Int32) < cx))) ∨ (((¬ (cx < (65 : Int32))) ∧ (¬ ((90 : Int32) < cx))) ∨ ((cx = (95 : Int32)) ∨ (cx = (58 : Int32))))) else (((¬ (cx < (192 : Int32))) ∧ (¬ ((214 : Int32) < cx))) ∨ (((¬ (cx < (216 : Int32))) ∧ (¬ ((246 : Int32) < cx))) ∨ (((¬ (cx < (248 : Int32))) ∧ (¬ ((767 : Int32) < cx))) ∨ (((¬ (cx < (880 : Int32))) ∧ (¬ ((893 : Int32) < cx))) ∨ (((¬ (cx < (895 : Int32))) ∧ (¬ ((8191 : Int32) < cx))) ∨ ((cx = (8204 : Int32)) ∨ ((cx = (8205 : Int32)) ∨ (((¬ (cx < (8304 : Int32))) ∧ (¬ ((8591 : Int32) < cx))) ∨ (((¬ (cx < (11264 : Int32))) ∧ (¬ ((12271 : Int32) < cx))) ∨ (((¬ (cx < (12289 : Int32))) ∧ (¬ ((55295 : Int32) < cx))) ∨ (((¬ (cx < (63744 : Int32))) ∧ (¬ ((64975 : Int32) < cx))) ∨ (((¬ (cx < (65008 : Int32))) ∧ (¬ ((65533 : Int32) < cx))) ∨ ((¬ (cx < (65536 : Int32))) ∧ (¬ ((983039 : Int32) < cx))))))))))))))))) (Q := (((¬ (cx < (97 : Int32))) ∧ (¬ ((122 : Int32) < cx))) ∨ (((¬ (cx < (65 : Int32))) ∧ (¬ ((90 : Int32) < cx))) ∨ ((cx = (95 : Int32)) ∨ (cx = (58 : Int32)))))) (iff_of_eq (if_pos hb2))] at k
      show Steps p.tables e below (s₁.setTop (mkF m 7 #[.val (.int cx)] [])) _
      refine XS.iloadN X0.here hx rfl (hb hby d1_7) rfl ?_
      refine XS.bipush X0.here hx rfl (hb hby d1_8) ?_
      exact tl14 fs k
    · refine XS.icmpYes X0.here hx rfl (pc0 := 4) (pc' := 49) rfl (hb hby d1_4) rfl (flt hb2).2.1 (by decide) (by decide) ?_
      rw [bz_congr (P := (if cx < (128 : Int32) then (((¬ (cx < (97 : Int32))) ∧ (¬ ((122 : Int32) < cx))) ∨ (((¬ (cx < (65 : Int32))) ∧ (¬ ((90 : Int32) < cx))) ∨ ((cx = (95 : Int32)) ∨ (cx = (58 : Int32))))) else (((¬ (cx < (192 : Int32))) ∧ (¬ ((214 : Int32) < cx))) ∨ (((¬ (cx < (216 : Int32))) ∧ (¬ ((246 : Int32) < cx))) ∨ (((¬ (cx < (248 : Int32))) ∧ (¬ ((767 : Int32) < cx))) ∨ (((¬ (cx < (880 : Int32))) ∧ (¬ ((893 : Int32) < cx))) ∨ (((¬ (cx < (895 : Int32))) ∧ (¬ ((8191 : Int32) < cx))) ∨ ((cx = (8204 : Int32)) ∨ ((cx = (8205 : Int32)) ∨ (((¬ (cx < (8304 : Int32))) ∧ (¬ ((8591 : Int32) < cx))) ∨ (((¬ (cx < (11264 : Int32))) ∧ (¬ ((12271 : Int32) < cx))) ∨ (((¬ (cx < (12289 : Int32))) ∧ (¬ ((55295 : Int32) < cx))) ∨ (((¬ (cx < (63744 : Int32))) ∧ (¬ ((64975 : Int32) < cx))) ∨ (((¬ (cx < (65008 : Int32))) ∧ (¬ ((65533 : Int32) < cx))) ∨ ((¬ (cx < (65536 : Int32))) ∧ (¬ ((983039 : Int32) < cx))))))))))))))))) (Q := (((¬ (cx < (192 : Int32))) ∧ (¬ ((214 : Int32) < cx))) ∨ (((¬ (cx < (216 : Int32))) ∧ (¬ ((246 : Int32) < cx))) ∨ (((¬ (cx < (248 : Int32))) ∧ (¬ ((767 : Int32) < cx))) ∨ (((¬ (cx < (880 : Int32))) ∧ (¬ ((893 : Int32) < cx))) ∨ (((¬ (cx < (895 : Int32))) ∧ (¬ ((8191 : Int32) < cx))) ∨ ((cx = (8204 : Int32)) ∨ ((cx = (8205 : Int32)) ∨ (((¬ (cx < (8304 : Int32))) ∧ (¬ ((8591 : Int32) < cx))) ∨ (((¬ (cx < (11264 : Int32))) ∧ (¬ ((12271 : Int32) < cx))) ∨ (((¬ (cx < (12289 : Int32))) ∧ (¬ ((55295 : Int32) < cx))) ∨ (((¬ (cx < (63744 : Int32))) ∧ (¬ ((64975 : Int32) < cx))) ∨ (((¬ (cx < (65008 : Int32))) ∧ (¬ ((65533 : Int32) < cx))) ∨ ((¬ (cx < (65536 : Int32))) ∧ (¬ ((983039 : Int32) < cx)))))))))))))))) (iff_of_eq (if_neg hb2))] at k
      show Steps p.tables e below (s₁.setTop (mkF m 49 #[.val (.int cx)] [])) _
      refine XS.iloadN X0.here hx rfl (hb hby d1_49) rfl ?_
      refine XS.sipush X0.here hx rfl (hb hby d1_50) ?_
      exact tl62 fs k
  obtain ⟨fs, hr, hrun, hended, hW, hsame⟩ := X0.leave (v := some (.int (bz (if cx < (128 : Int32) then (((¬ (cx < (97 : Int32))) ∧ (¬ ((122 : Int32) < cx))) ∨ (((¬ (cx < (65 : Int32))) ∧ (¬ ((90 : Int32) < cx))) ∨ ((cx = (95 : Int32)) ∨ (cx = (58 : Int32))))) else (((¬ (cx < (192 : Int32))) ∧ (¬ ((214 : Int32) < cx))) ∨ (((¬ (cx < (216 : Int32))) ∧ (¬ ((246 : Int32) < cx))) ∨ (((¬ (cx < (248 : Int32))) ∧ (¬ ((767 : Int32) < cx))) ∨ (((¬ (cx < (880 : Int32))) ∧ (¬ ((893 : Int32) < cx))) ∨ (((¬ (cx < (895 : Int32))) ∧ (¬ ((8191 : Int32) < cx))) ∨ ((cx = (8204 : Int32)) ∨ ((cx = (8205 : Int32)) ∨ (((¬ (cx < (8304 : Int32))) ∧ (¬ ((8591 : Int32) < cx))) ∨ (((¬ (cx < (11264 : Int32))) ∧ (¬ ((12271 : Int32) < cx))) ∨ (((¬ (cx < (12289 : Int32))) ∧ (¬ ((55295 : Int32) < cx))) ∨ (((¬ (cx < (63744 : Int32))) ∧ (¬ ((64975 : Int32) < cx))) ∨ (((¬ (cx < (65008 : Int32))) ∧ (¬ ((65533 : Int32) < cx))) ∨ ((¬ (cx < (65536 : Int32))) ∧ (¬ ((983039 : Int32) < cx))))))))))))))))))) (fun h => by rw [Bd.returns] at h; cases h)
  refine ⟨_, _, pre1 _ ?_, hrun, hended, _, _, rfl, ?_, ⟨_, rfl⟩, hW, hsame.mono (by decide) (by decide)⟩
  · skip
    exact tl63 fs hr
  · show Q1 Z cx n0 Rst _ s₁.heap _
    rw [e0]
    exact ⟨(by first | rfl | simp only [F1]), N0, R0⟩
theorem d2_0 : decode method_2_code 0 = .ok (.iload_n 0, 1) := by decide +kernel
theorem d2_1 : decode method_2_code 1 = .ok (.ifCond .lt 9, 3) := by decide +kernel
theorem d2_10 : decode method_2_code 10 = .ok (.iconst 0, 1) := by decide +kernel
theorem d2_4 : decode method_2_code 4 = .ok (.iload_n 0, 1) := by decide +kernel
theorem d2_5 : decode method_2_code 5 = .ok (.ldc 7, 2) := by decide +kernel
theorem d2_7 : decode method_2_code 7 = .ok (.if_icmp .le 5, 3) := by decide +kernel
theorem d2_12 : decode method_2_code 12 = .ok (.iload_n 0, 1) := by decide +kernel
theorem d2_13 : decode method_2_code 13 = .ok (.bipush 57, 2) := by decide +kernel
theorem d2_15 : decode method_2_code 15 = .ok (.if_icmp .le 173, 3) := by decide +kernel
theorem d2_18 : decode method_2_code 18 = .ok (.iload_n 0, 1) := by decide +kernel
theorem d2_19 : decode method_2_code 19 = .ok (.bipush 59, 2) := by decide +kernel
theorem d2_21 : decode method_2_code 21 = .ok (.if_icmp .lt 9, 3) := by decide +kernel
theorem d2_30 : decode method_2_code 30 = .ok (.iload_n 0, 1) := by decide +kernel
theorem d2_31 : decode method_2_code 31 = .ok (.bipush 91, 2) := by decide +kernel
theorem d2_33 : decode method_2_code 33 = .ok (.if_icmp .lt 9, 3) := by decide +kernel
theorem d2_42 : decode method_2_code 42 = .ok (.iload_n 0, 1) := by decide +kernel
theorem d2_43 : decode method_2_code 43 = .ok (.bipush 96, 2) := by decide +kernel
theorem d2_45 : decode method_2_code 45 = .ok (.if_icmp .eq 143, 3) := by decide +kernel
theorem d2_188 : decode method_2_code 188 = .ok (.iconst 1, 1) := by decide +kernel
theorem d2_189 : decode method_2_code 189 = .ok (.goto 4, 3) := by decide +kernel
theorem d2_193 : decode method_2_code 193 = .ok (.istore_n 1, 1) := by decide +kernel
theorem d2_194 : decode method_2_code 194 = .ok (.iload_n 1, 1) := by decide +kernel
theorem d2_195 : decode method_2_code 195 = .ok (.ifCond .ne 7, 3) := by decide +kernel
theorem d2_202 : decode method_2_code 202 = .ok (.iconst 0, 1) := by decide +kernel
theorem d2_48 : decode method_2_code 48 = .ok (.iload_n 0, 1) := by decide +kernel
theorem d2_49 : decode method_2_code 49 = .ok (.bipush 123, 2) := by decide +kernel
theorem d2_51 : decode method_2_code 51 = .ok (.if_icmp .lt 10, 3) := by decide +kernel
theorem d2_61 : decode method_2_code 61 = .ok (.iload_n 0, 1) := by decide +kernel
theorem d2_62 : decode method_2_code 62 = .ok (.sipush 215, 3) := by decide +kernel
theorem d2_65 : decode method_2_code 65 = .ok (.if_icmp .eq 123, 3) := by decide +kernel
theorem d2_68 : decode method_2_code 68 = .ok (.iload_n 0, 1) := by decide +kernel
theorem d2_69 : decode method_2_code 69 = .ok (.sipush 247, 3) := by decide +kernel
theorem d2_72 : decode method_2_code 72 = .ok (.if_icmp .eq 116, 3) := by decide +kernel
theorem d2_75 : decode method_2_code 75 = .ok (.iload_n 0, 1) := by decide +kernel
theorem d2_76 : decode method_2_code 76 = .ok (.sipush 768, 3) := by decide +kernel
theorem d2_79 : decode method_2_code 79 = .ok (.if_icmp .lt 10, 3) := by decide +kernel
theorem d2_89 : decode method_2_code 89 = .ok (.iload_n 0, 1) := by decide +kernel
theorem d2_90 : decode method_2_code 90 = .ok (.sipush 894, 3) := by decide +kernel
theorem d2_93 : decode method_2_code 93 = .ok (.if_icmp .eq 95, 3) := by decide +kernel
theorem d2_96 : decode method_2_code 96 = .ok (.iload_n 0, 1) := by decide +kernel
theorem d2_97 : decode method_2_code 97 = .ok (.sipush 8192, 3) := by decide +kernel
theorem d2_100 : decode method_2_code 100 = .ok (.if_icmp .lt 10, 3) := by decide +kernel
theorem d2_110 : decode method_2_code 110 = .ok (.iload_n 0, 1) := by decide +kernel
theorem d2_111 : decode method_2_code 111 = .ok (.sipush 8206, 3) := by decide +kernel
theorem d2_114 : decode method_2_code 114 = .ok (.if_icmp .lt 10, 3) := by decide +kernel
theorem d2_124 : decode method_2_code 124 = .ok (.iload_n 0, 1) := by decide +kernel
theorem d2_125 : decode method_2_code 125 = .ok (.sipush 8592, 3) := by decide +kernel
theorem d2_128 : decode method_2_code 128 = .ok (.if_icmp .lt 10, 3) := by decide +kernel
theorem d2_138 : decode method_2_code 138 = .ok (.iload_n 0, 1) := by decide +kernel
theorem d2_139 : decode method_2_code 139 = .ok (.sipush 12272, 3) := by decide +kernel
theorem d2_142 : decode method_2_code 142 = .ok (.if_icmp .lt 10, 3) := by decide +kernel
theorem d2_152 : decode method_2_code 152 = .ok (.iload_n 0, 1) := by decide +kernel
theorem d2_153 : decode method_2_code 153 = .ok (.ldc 8, 2) := by decide +kernel
theorem d2_155 : decode method_2_code 155 = .ok (.if_icmp .lt 9, 3) := by decide +kernel
theorem d2_164 : decode method_2_code 164 = .ok (.iload_n 0, 1) := by decide +kernel
theorem d2_165 : decode method_2_code 165 = .ok (.ldc 10, 2) := by decide +kernel
theorem d2_167 : decode method_2_code 167 = .ok (.if_icmp .lt 9, 3) := by decide +kernel
theorem d2_176 : decode method_2_code 176 = .ok (.iload_n 0, 1) := by decide +kernel
theorem d2_177 : decode method_2_code 177 = .ok (.ldc 12, 2) := by decide +kernel
theorem d2_179 : decode method_2_code 179 = .ok (.if_icmp .lt 13, 3) := by decide +kernel
theorem d2_192 : decode method_2_code 192 = .ok (.iconst 0, 1) := by decide +kernel
theorem d2_198 : decode method_2_code 198 = .ok (.iconst 1, 1) := by decide +kernel
theorem d2_199 : decode method_2_code 199 = .ok (.goto 4, 3) := by decide +kernel
theorem d2_182 : decode method_2_code 182 = .ok (.iload_n 0, 1) := by decide +kernel
theorem d2_183 : decode method_2_code 183 = .ok (.ldc 13, 2) := by decide +kernel
theorem d2_185 : decode method_2_code 185 = .ok (.if_icmp .gt 7, 3) := by decide +kernel
theorem d2_170 : decode method_2_code 170 = .ok (.iload_n 0, 1) := by decide +kernel
theorem d2_171 : decode method_2_code 171 = .ok (.ldc 11, 2) := by decide +kernel
theorem d2_173 : decode method_2_code 173 = .ok (.if_icmp .le 15, 3) := by decide +kernel
theorem d2_158 : decode method_2_code 158 = .ok (.iload_n 0, 1) := by decide +kernel
theorem d2_159 : decode method_2_code 159 = .ok (.ldc 9, 2) := by decide +kernel
theorem d2_161 : decode method_2_code 161 = .ok (.if_icmp .le 27, 3) := by decide +kernel
theorem d2_145 : decode method_2_code 145 = .ok (.iload_n 0, 1) := by decide +kernel
theorem d2_146 : decode method_2_code 146 = .ok (.sipush 12288, 3) := by decide +kernel
theorem d2_149 : decode method_2_code 149 = .ok (.if_icmp .le 39, 3) := by decide +kernel
theorem d2_131 : decode method_2_code 131 = .ok (.iload_n 0, 1) := by decide +kernel
theorem d2_132 : decode method_2_code 132 = .ok (.sipush 11263, 3) := by decide +kernel
theorem d2_135 : decode method_2_code 135 = .ok (.if_icmp .le 53, 3) := by decide +kernel
theorem d2_117 : decode method_2_code 117 = .ok (.iload_n 0, 1) := by decide +kernel
theorem d2_118 : decode method_2_code 118 = .ok (.sipush 8303, 3) := by decide +kernel
theorem d2_121 : decode method_2_code 121 = .ok (.if_icmp .le 67, 3) := by decide +kernel
theorem d2_103 : decode method_2_code 103 = .ok (.iload_n 0, 1) := by decide +kernel
theorem d2_104 : decode method_2_code 104 = .ok (.sipush 8203, 3) := by decide +kernel
theorem d2_107 : decode method_2_code 107 = .ok (.if_icmp .le 81, 3) := by decide +kernel
theorem d2_82 : decode method_2_code 82 = .ok (.iload_n 0, 1) := by decide +kernel
theorem d2_83 : decode method_2_code 83 = .ok (.sipush 879, 3) := by decide +kernel
theorem d2_86 : decode method_2_code 86 = .ok (.if_icmp .le 102, 3) := by decide +kernel
theorem d2_54 : decode method_2_code 54 = .ok (.iload_n 0, 1) := by decide +kernel
theorem d2_55 : decode method_2_code 55 = .ok (.sipush 191, 3) := by decide +kernel
theorem d2_58 : decode method_2_code 58 = .ok (.if_icmp .le 130, 3) := by decide +kernel
theorem d2_36 : decode method_2_code 36 = .ok (.iload_n 0, 1) := by decide +kernel
theorem d2_37 : decode method_2_code 37 = .ok (.bipush 94, 2) := by decide +kernel
theorem d2_39 : decode method_2_code 39 = .ok (.if_icmp .le 149, 3) := by decide +kernel
theorem d2_24 : decode method_2_code 24 = .ok (.iload_n 0, 1) := by decide +kernel
theorem d2_25 : decode method_2_code 25 = .ok (.bipush 64, 2) := by decide +kernel
theorem d2_27 : decode method_2_code 27 = .ok (.if_icmp .le 161, 3) := by decide +kernel
theorem d2_203 : decode method_2_code 203 = .ok (.ireturn, 1) := by decide +kernel
theorem d2_11 : decode method_2_code 11 = .ok (.ireturn, 1) := by decide +kernel
theorem pn_com_example_taggen_taggen_XmlCharsIsNameStartCharPinLaw : plainName "com/example/taggen/taggen/XmlCharsIsNameStartCharPinLaw" = true := by first | (simp [plainName, overriddenIn]; done) | decide +kernel
theorem ef_2 (m : MethodId) (x0 : Int32) : entryFrame m #[(.int x0)] 2 = mkF m 0 #[.val (.int x0), .unset] [] := by first | (simp [entryFrame, mkF, argsToLocals, Value.category]; done) | rfl
def F2 (cx : Int32) : Int32 :=
  (bz ((¬ (cx < (0 : Int32))) ∧ ((¬ ((983039 : Int32) < cx)) ∧ (((57 : Int32) < cx) ∧ (((cx < (59 : Int32)) ∨ ((64 : Int32) < cx)) ∧ (((cx < (91 : Int32)) ∨ ((94 : Int32) < cx)) ∧ ((¬ (cx = (96 : Int32))) ∧ (((cx < (123 : Int32)) ∨ ((191 : Int32) < cx)) ∧ ((¬ (cx = (215 : Int32))) ∧ ((¬ (cx = (247 : Int32))) ∧ (((cx < (768 : Int32)) ∨ ((879 : Int32) < cx)) ∧ ((¬ (cx = (894 : Int32))) ∧ (((cx < (8192 : Int32)) ∨ ((8203 : Int32) < cx)) ∧ (((cx < (8206 : Int32)) ∨ ((8303 : Int32) < cx)) ∧ (((cx < (8592 : Int32)) ∨ ((11263 : Int32) < cx)) ∧ (((cx < (12272 : Int32)) ∨ ((12288 : Int32) < cx)) ∧ (((cx < (55296 : Int32)) ∨ ((63743 : Int32) < cx)) ∧ (((cx < (64976 : Int32)) ∨ ((65007 : Int32) < cx)) ∧ ((cx < (65534 : Int32)) ∨ ((65535 : Int32) < cx))))))))))))))))))))
def Q2 (Z : State) (cx : Int32) (n0 : Nat) (Rst : RL) (v : Option Value) (h : Heap) (L : List Loc) : Prop := v = some (.int (F2 cx)) ∧ Fr n0 L ∧ Rep Z n0 h (Rst)
set_option maxRecDepth 65536 in
set_option maxHeartbeats 40000000 in
theorem rm2 (l : Launch) (Z : State) (a0 : Array Value) (hw : ∀ d ∈ tables_1, d.before a0 Z = true) (ws : List Jvm.Cond) (cx : Int32) (h0 : Heap) (n0 : Nat) (Rst : RL) (R0 : Rep Z n0 h0 (Rst)) :
    MetFree l (⟨"com/example/taggen/taggen/XmlCharsIsNameStartCharPinLaw", "reference", "(I)Z"⟩ : MethodName) (head1 (Jvm.Cond.code (⟨"com/example/taggen/taggen/XmlCharsIsNameStartCharPinLaw", "reference", "(I)Z"⟩ : MethodName) method_2_code 2 (some .boolean) :: ws) ({ frames := 0, cells := 0, slots := 0, locals := 0 } : Room)) (fun a U => a = #[(.int cx)] ∧ Z.Warmed39 U.vm ∧ U.heap = h0) (fun _ _ _ _ _ => True) (fun _ U o U' => ∃ v L, o = .returned v ∧ Q2 Z cx n0 Rst v U'.heap L ∧ FrameEnd U o U' L ({ frames := 0, cells := 0, slots := 0, locals := 0 } : Room).cells ({ frames := 0, cells := 0, slots := 0, locals := 0 } : Room).slots) := by
  refine MetFree.of_bodySF (plainFor_of_name pn_com_example_taggen_taggen_XmlCharsIsNameStartCharPinLaw) hisR ?_
  intro p e s m args below meth c s₁ Bd hml0 hP hK
  obtain ⟨rfl, hZ, hh⟩ := hP
  have hx := Bd.exec
  have hby := Bd.bytes
  have hml : c.maxLocals = 2 := hml0
  have hown : s.vm.findClass "com/example/taggen/taggen/XmlCharsIsNameStartCharPinLaw" = some m.cls := findClass_of_methodNamed Bd.named
  have hnm := (name_of_methodNamed Bd.named Bd.method).1
  have X0 : Stand p l e ({ frames := 0, cells := 0, slots := 0, locals := 0 } : Room) s m #[(.int cx)] below meth c s₁ [] 0 0 := Stand.of_body Bd
  have e0 : s₁.heap = h0 := by rw [← hh, Bd.state]; rfl
  have N0 := Fr.nil n0
  have pre0 : ∀ t, Steps p.tables e below (s₁.setTop (mkF m 0 #[.val (.int cx), .unset] [])) t → Steps p.tables e below (s₁.setTop (entryFrame m #[(.int cx)] 2)) t := fun t k => castTop (ef_2 m cx) k
  have pre1 : ∀ t, Steps p.tables e below (s₁.setTop (mkF m 1 #[.val (.int cx), .unset] [(.int cx)])) t → Steps p.tables e below (s₁.setTop (entryFrame m #[(.int cx)] 2)) t := fun t k => pre0 t (by
    show Steps p.tables e below (s₁.setTop (mkF m 0 #[.val (.int cx), .unset] [])) _
    refine XS.iloadN X0.here hx rfl (hb hby d2_0) rfl ?_
    exact k)
  have tl21 : ∀ fs, (∀ (f : JFrame) (acts : List Action), f.method = m → f.locked = none → f.entered = [] → (doReturn e (s₁.setTop f) acts (some (.int (bz ((65535 : Int32) < cx))))).1 = s₁.setFrames fs) → Steps p.tables e below (s₁.setTop (mkF m 185 #[.val (.int cx), .unset] [(.int (65535 : Int32)), (.int cx)])) (s₁.setFrames fs) := fun fs k => by
    by_cases hb20 : (65535 : Int32) < cx
    · refine XS.icmpYes X0.here hx rfl (pc0 := 185) (pc' := 192) rfl (hb hby d2_185) rfl (tlt hb20).2.2.1 (by decide) (by decide) ?_
      rw [bz_one (P := ((65535 : Int32) < cx)) (iff_true_intro hb20)] at k
      show Steps p.tables e below (s₁.setTop (mkF m 192 #[.val (.int cx), .unset] [])) _
      refine XS.iconst X0.here hx rfl (hb hby d2_192) ?_
      refine XS.istoreN X0.here hx rfl (hb hby d2_193) rfl (l' := #[.val (.int cx), .val (.int (0 : Int32))]) rfl ?_
      refine XS.iloadN X0.here hx rfl (hb hby d2_194) rfl ?_
      refine XS.ifNo X0.here hx rfl (hb hby d2_195) rfl ((if0 _ _).trans (teq (show (0 : Int32) = (0 : Int32) from (by decide))).2) ?_
      refine XS.iconst X0.here hx rfl (hb hby d2_198) ?_
      refine XS.goto X0.here hx rfl (pc0 := 199) (pc' := 203) rfl (hb hby d2_199) (by decide) (by decide) ?_
      exact retN X0 hx (t := .boolean) Bd.returns (by simp) (hb hby d2_203) k
    · refine XS.icmpNo X0.here hx rfl (hb hby d2_185) rfl (flt hb20).2.2.1 ?_
      rw [bz_zero (P := ((65535 : Int32) < cx)) (iff_false_intro hb20)] at k
      show Steps p.tables e below (s₁.setTop (mkF m 188 #[.val (.int cx), .unset] [])) _
      refine XS.iconst X0.here hx rfl (hb hby d2_188) ?_
      refine XS.goto X0.here hx rfl (pc0 := 189) (pc' := 193) rfl (hb hby d2_189) (by decide) (by decide) ?_
      refine XS.istoreN X0.here hx rfl (hb hby d2_193) rfl (l' := #[.val (.int cx), .val (.int (1 : Int32))]) rfl ?_
      refine XS.iloadN X0.here hx rfl (hb hby d2_194) rfl ?_
      refine XS.ifYes X0.here hx rfl (pc0 := 195) (pc' := 202) rfl (hb hby d2_195) rfl ((if0 _ _).trans (feq (show ¬ ((1 : Int32) = (0 : Int32)) from (by decide))).2) (by decide) (by decide) ?_
      refine XS.iconst X0.here hx rfl (hb hby d2_202) ?_
      exact retN X0 hx (t := .boolean) Bd.returns (by simp) (hb hby d2_203) k
  have tl22 : ∀ fs, (∀ (f : JFrame) (acts : List Action), f.method = m → f.locked = none → f.entered = [] → (doReturn e (s₁.setTop f) acts (some (.int (bz ((cx < (65534 : Int32)) ∨ ((65535 : Int32) < cx)))))).1 = s₁.setFrames fs) → Steps p.tables e below (s₁.setTop (mkF m 179 #[.val (.int cx), .unset] [(.int (65534 : Int32)), (.int cx)])) (s₁.setFrames fs) := fun fs k => by
    by_cases hb19 : cx < (65534 : Int32)
    · refine XS.icmpYes X0.here hx rfl (pc0 := 179) (pc' := 192) rfl (hb hby d2_179) rfl (tlt hb19).1 (by decide) (by decide) ?_
      rw [bz_one (P := ((cx < (65534 : Int32)) ∨ ((65535 : Int32) < cx))) (iff_true_intro (Or.inl hb19))] at k
      show Steps p.tables e below (s₁.setTop (mkF m 192 #[.val (.int cx), .unset] [])) _
      refine XS.iconst X0.here hx rfl (hb hby d2_192) ?_
      refine XS.istoreN X0.here hx rfl (hb hby d2_193) rfl (l' := #[.val (.int cx), .val (.int (0 : Int32))]) rfl ?_
      refine XS.iloadN X0.here hx rfl (hb hby d2_194) rfl ?_
      refine XS.ifNo X0.here hx rfl (hb hby d2_195) rfl ((if0 _ _).trans (teq (show (0 : Int32) = (0 : Int32) from (by decide))).2) ?_
      refine XS.iconst X0.here hx rfl (hb hby d2_198) ?_
      refine XS.goto X0.here hx rfl (pc0 := 199) (pc' := 203) rfl (hb hby d2_199) (by decide) (by decide) ?_
      exact retN X0 hx (t := .boolean) Bd.returns (by simp) (hb hby d2_203) k
    · refine XS.icmpNo X0.here hx rfl (hb hby d2_179) rfl (flt hb19).1 ?_
      rw [bz_congr (P := ((cx < (65534 : Int32)) ∨ ((65535 : Int32) < cx))) (Q := ((65535 : Int32) < cx)) (or_iff_right hb19)] at k
      show Steps p.tables e below (s₁.setTop (mkF m 182 #[.val (.int cx), .unset] [])) _
      refine XS.iloadN X0.here hx rfl (hb hby d2_182) rfl ?_
      refine X0.ldcInt hx hown (mvT hZ (hw _ (List.mem_of_getElem? (i := 11) rfl))) (g := (mkF m 183 #[.val (.int cx), .unset] [(.int cx)])) rfl (hb hby d2_183) _ ?_
      exact tl21 fs k
  have tl24 : ∀ fs, (∀ (f : JFrame) (acts : List Action), f.method = m → f.locked = none → f.entered = [] → (doReturn e (s₁.setTop f) acts (some (.int (bz (((65007 : Int32) < cx) ∧ ((cx < (65534 : Int32)) ∨ ((65535 : Int32) < cx))))))).1 = s₁.setFrames fs) → Steps p.tables e below (s₁.setTop (mkF m 173 #[.val (.int cx), .unset] [(.int (65007 : Int32)), (.int cx)])) (s₁.setFrames fs) := fun fs k => by
    by_cases hb23 : (65007 : Int32) < cx
    · refine XS.icmpNo X0.here hx rfl (hb hby d2_173) rfl (tlt hb23).2.2.2 ?_
      rw [bz_congr (P := (((65007 : Int32) < cx) ∧ ((cx < (65534 : Int32)) ∨ ((65535 : Int32) < cx)))) (Q := ((cx < (65534 : Int32)) ∨ ((65535 : Int32) < cx))) (and_iff_right hb23)] at k
      show Steps p.tables e below (s₁.setTop (mkF m 176 #[.val (.int cx), .unset] [])) _
      refine XS.iloadN X0.here hx rfl (hb hby d2_176) rfl ?_
      refine X0.ldcInt hx hown (mvT hZ (hw _ (List.mem_of_getElem? (i := 10) rfl))) (g := (mkF m 177 #[.val (.int cx), .unset] [(.int cx)])) rfl (hb hby d2_177) _ ?_
      exact tl22 fs k
    · refine XS.icmpYes X0.here hx rfl (pc0 := 173) (pc' := 188) rfl (hb hby d2_173) rfl (flt hb23).2.2.2 (by decide) (by decide) ?_
      rw [bz_zero (P := (((65007 : Int32) < cx) ∧ ((cx < (65534 : Int32)) ∨ ((65535 : Int32) < cx)))) (iff_false_intro (fun q => hb23 q.1))] at k
      show Steps p.tables e below (s₁.setTop (mkF m 188 #[.val (.int cx), .unset] [])) _
      refine XS.iconst X0.here hx rfl (hb hby d2_188) ?_
      refine XS.goto X0.here hx rfl (pc0 := 189) (pc' := 193) rfl (hb hby d2_189) (by decide) (by decide) ?_
      refine XS.istoreN X0.here hx rfl (hb hby d2_193) rfl (l' := #[.val (.int cx), .val (.int (1 : Int32))]) rfl ?_
      refine XS.iloadN X0.here hx rfl (hb hby d2_194) rfl ?_
      refine XS.ifYes X0.here hx rfl (pc0 := 195) (pc' := 202) rfl (hb hby d2_195) rfl ((if0 _ _).trans (feq (show ¬ ((1 : Int32) = (0 : Int32)) from (by decide))).2) (by decide) (by decide) ?_
      refine XS.iconst X0.here hx rfl (hb hby d2_202) ?_
      exact retN X0 hx (t := .boolean) Bd.returns (by simp) (hb hby d2_203) k
  have tl25 : ∀ fs, (∀ (f : JFrame) (acts : List Action), f.method = m → f.locked = none → f.entered = [] → (doReturn e (s₁.setTop f) acts (some (.int (bz (((cx < (64976 : Int32)) ∨ ((65007 : Int32) < cx)) ∧ ((cx < (65534 : Int32)) ∨ ((65535 : Int32) < cx))))))).1 = s₁.setFrames fs) → Steps p.tables e below (s₁.setTop (mkF m 167 #[.val (.int cx), .unset] [(.int (64976 : Int32)), (.int cx)])) (s₁.setFrames fs) := fun fs k => by
    by_cases hb18 : cx < (64976 : Int32)
    · refine XS.icmpYes X0.here hx rfl (pc0 := 167) (pc' := 176) rfl (hb hby d2_167) rfl (tlt hb18).1 (by decide) (by decide) ?_
      rw [bz_congr (P := (((cx < (64976 : Int32)) ∨ ((65007 : Int32) < cx)) ∧ ((cx < (65534 : Int32)) ∨ ((65535 : Int32) < cx)))) (Q := ((cx < (65534 : Int32)) ∨ ((65535 : Int32) < cx))) (and_iff_right (Or.inl hb18))] at k
      show Steps p.tables e below (s₁.setTop (mkF m 176 #[.val (.int cx), .unset] [])) _
      refine XS.iloadN X0.here hx rfl (hb hby d2_176) rfl ?_
      refine X0.ldcInt hx hown (mvT hZ (hw _ (List.mem_of_getElem? (i := 10) rfl))) (g := (mkF m 177 #[.val (.int cx), .unset] [(.int cx)])) rfl (hb hby d2_177) _ ?_
      exact tl22 fs k
    · refine XS.icmpNo X0.here hx rfl (hb hby d2_167) rfl (flt hb18).1 ?_
      rw [bz_congr (P := (((cx < (64976 : Int32)) ∨ ((65007 : Int32) < cx)) ∧ ((cx < (65534 : Int32)) ∨ ((65535 : Int32) < cx)))) (Q := (((65007 : Int32) < cx) ∧ ((cx < (65534 : Int32)) ∨ ((65535 : Int32) < cx)))) (and_congr (or_iff_right hb18) Iff.rfl)] at k
      show Steps p.tables e below (s₁.setTop (mkF m 170 #[.val (.int cx), .unset] [])) _
      refine XS.iloadN X0.here hx rfl (hb hby d2_170) rfl ?_
      refine X0.ldcInt hx hown (mvT hZ (hw _ (List.mem_of_getElem? (i := 7) rfl))) (g := (mkF m 171 #[.val (.int cx), .unset] [(.int cx)])) rfl (hb hby d2_171) _ ?_
      exact tl24 fs k
  have tl27 : ∀ fs, (∀ (f : JFrame) (acts : List Action), f.method = m → f.locked = none → f.entered = [] → (doReturn e (s₁.setTop f) acts (some (.int (bz (((63743 : Int32) < cx) ∧ (((cx < (64976 : Int32)) ∨ ((65007 : Int32) < cx)) ∧ ((cx < (65534 : Int32)) ∨ ((65535 : Int32) < cx)))))))).1 = s₁.setFrames fs) → Steps p.tables e below (s₁.setTop (mkF m 161 #[.val (.int cx), .unset] [(.int (63743 : Int32)), (.int cx)])) (s₁.setFrames fs) := fun fs k => by
    by_cases hb26 : (63743 : Int32) < cx
    · refine XS.icmpNo X0.here hx rfl (hb hby d2_161) rfl (tlt hb26).2.2.2 ?_
      rw [bz_congr (P := (((63743 : Int32) < cx) ∧ (((cx < (64976 : Int32)) ∨ ((65007 : Int32) < cx)) ∧ ((cx < (65534 : Int32)) ∨ ((65535 : Int32) < cx))))) (Q := (((cx < (64976 : Int32)) ∨ ((65007 : Int32) < cx)) ∧ ((cx < (65534 : Int32)) ∨ ((65535 : Int32) < cx)))) (and_iff_right hb26)] at k
      show Steps p.tables e below (s₁.setTop (mkF m 164 #[.val (.int cx), .unset] [])) _
      refine XS.iloadN X0.here hx rfl (hb hby d2_164) rfl ?_
      refine X0.ldcInt hx hown (mvT hZ (hw _ (List.mem_of_getElem? (i := 6) rfl))) (g := (mkF m 165 #[.val (.int cx), .unset] [(.int cx)])) rfl (hb hby d2_165) _ ?_
      exact tl25 fs k
    · refine XS.icmpYes X0.here hx rfl (pc0 := 161) (pc' := 188) rfl (hb hby d2_161) rfl (flt hb26).2.2.2 (by decide) (by decide) ?_
      rw [bz_zero (P := (((63743 : Int32) < cx) ∧ (((cx < (64976 : Int32)) ∨ ((65007 : Int32) < cx)) ∧ ((cx < (65534 : Int32)) ∨ ((65535 : Int32) < cx))))) (iff_false_intro (fun q => hb26 q.1))] at k
      show Steps p.tables e below (s₁.setTop (mkF m 188 #[.val (.int cx), .unset] [])) _
      refine XS.iconst X0.here hx rfl (hb hby d2_188) ?_
      refine XS.goto X0.here hx rfl (pc0 := 189) (pc' := 193) rfl (hb hby d2_189) (by decide) (by decide) ?_
      refine XS.istoreN X0.here hx rfl (hb hby d2_193) rfl (l' := #[.val (.int cx), .val (.int (1 : Int32))]) rfl ?_
      refine XS.iloadN X0.here hx rfl (hb hby d2_194) rfl ?_
      refine XS.ifYes X0.here hx rfl (pc0 := 195) (pc' := 202) rfl (hb hby d2_195) rfl ((if0 _ _).trans (feq (show ¬ ((1 : Int32) = (0 : Int32)) from (by decide))).2) (by decide) (by decide) ?_
      refine XS.iconst X0.here hx rfl (hb hby d2_202) ?_
      exact retN X0 hx (t := .boolean) Bd.returns (by simp) (hb hby d2_203) k
  have tl28 : ∀ fs, (∀ (f : JFrame) (acts : List Action), f.method = m → f.locked = none → f.entered = [] → (doReturn e (s₁.setTop f) acts (some (.int (bz (((cx < (55296 : Int32)) ∨ ((63743 : Int32) < cx)) ∧ (((cx < (64976 : Int32)) ∨ ((65007 : Int32) < cx)) ∧ ((cx < (65534 : Int32)) ∨ ((65535 : Int32) < cx)))))))).1 = s₁.setFrames fs) → Steps p.tables e below (s₁.setTop (mkF m 155 #[.val (.int cx), .unset] [(.int (55296 : Int32)), (.int cx)])) (s₁.setFrames fs) := fun fs k => by
    by_cases hb17 : cx < (55296 : Int32)
    · refine XS.icmpYes X0.here hx rfl (pc0 := 155) (pc' := 164) rfl (hb hby d2_155) rfl (tlt hb17).1 (by decide) (by decide) ?_
      rw [bz_congr (P := (((cx < (55296 : Int32)) ∨ ((63743 : Int32) < cx)) ∧ (((cx < (64976 : Int32)) ∨ ((65007 : Int32) < cx)) ∧ ((cx < (65534 : Int32)) ∨ ((65535 : Int32) < cx))))) (Q := (((cx < (64976 : Int32)) ∨ ((65007 : Int32) < cx)) ∧ ((cx < (65534 : Int32)) ∨ ((65535 : Int32) < cx)))) (and_iff_right (Or.inl hb17))] at k
      show Steps p.tables e below (s₁.setTop (mkF m 164 #[.val (.int cx), .unset] [])) _
      refine XS.iloadN X0.here hx rfl (hb hby d2_164) rfl ?_
      refine X0.ldcInt hx hown (mvT hZ (hw _ (List.mem_of_getElem? (i := 6) rfl))) (g := (mkF m 165 #[.val (.int cx), .unset] [(.int cx)])) rfl (hb hby d2_165) _ ?_
      exact tl25 fs k
    · refine XS.icmpNo X0.here hx rfl (hb hby d2_155) rfl (flt hb17).1 ?_
      rw [bz_congr (P := (((cx < (55296 : Int32)) ∨ ((63743 : Int32) < cx)) ∧ (((cx < (64976 : Int32)) ∨ ((65007 : Int32) < cx)) ∧ ((cx < (65534 : Int32)) ∨ ((65535 : Int32) < cx))))) (Q := (((63743 : Int32) < cx) ∧ (((cx < (64976 : Int32)) ∨ ((65007 : Int32) < cx)) ∧ ((cx < (65534 : Int32)) ∨ ((65535 : Int32) < cx))))) (and_congr (or_iff_right hb17) Iff.rfl)] at k
      show Steps p.tables e below (s₁.setTop (mkF m 158 #[.val (.int cx), .unset] [])) _
      refine XS.iloadN X0.here hx rfl (hb hby d2_158) rfl ?_
      refine X0.ldcInt hx hown (mvT hZ (hw _ (List.mem_of_getElem? (i := 3) rfl))) (g := (mkF m 159 #[.val (.int cx), .unset] [(.int cx)])) rfl (hb hby d2_159) _ ?_
      exact tl27 fs k
  have tl30 : ∀ fs, (∀ (f : JFrame) (acts : List Action), f.method = m → f.locked = none → f.entered = [] → (doReturn e (s₁.setTop f) acts (some (.int (bz (((12288 : Int32) < cx) ∧ (((cx < (55296 : Int32)) ∨ ((63743 : Int32) < cx)) ∧ (((cx < (64976 : Int32)) ∨ ((65007 : Int32) < cx)) ∧ ((cx < (65534 : Int32)) ∨ ((65535 : Int32) < cx))))))))).1 = s₁.setFrames fs) → Steps p.tables e below (s₁.setTop (mkF m 149 #[.val (.int cx), .unset] [(.int (12288 : Int32)), (.int cx)])) (s₁.setFrames fs) := fun fs k => by
    by_cases hb29 : (12288 : Int32) < cx
    · refine XS.icmpNo X0.here hx rfl (hb hby d2_149) rfl (tlt hb29).2.2.2 ?_
      rw [bz_congr (P := (((12288 : Int32) < cx) ∧ (((cx < (55296 : Int32)) ∨ ((63743 : Int32) < cx)) ∧ (((cx < (64976 : Int32)) ∨ ((65007 : Int32) < cx)) ∧ ((cx < (65534 : Int32)) ∨ ((65535 : Int32) < cx)))))) (Q := (((cx < (55296 : Int32)) ∨ ((63743 : Int32) < cx)) ∧ (((cx < (64976 : Int32)) ∨ ((65007 : Int32) < cx)) ∧ ((cx < (65534 : Int32)) ∨ ((65535 : Int32) < cx))))) (and_iff_right hb29)] at k
      show Steps p.tables e below (s₁.setTop (mkF m 152 #[.val (.int cx), .unset] [])) _
      refine XS.iloadN X0.here hx rfl (hb hby d2_152) rfl ?_
      refine X0.ldcInt hx hown (mvT hZ (hw _ (List.mem_of_getElem? (i := 2) rfl))) (g := (mkF m 153 #[.val (.int cx), .unset] [(.int cx)])) rfl (hb hby d2_153) _ ?_
      exact tl28 fs k
    · refine XS.icmpYes X0.here hx rfl (pc0 := 149) (pc' := 188) rfl (hb hby d2_149) rfl (flt hb29).2.2.2 (by decide) (by decide) ?_
      rw [bz_zero (P := (((12288 : Int32) < cx) ∧ (((cx < (55296 : Int32)) ∨ ((63743 : Int32) < cx)) ∧ (((cx < (64976 : Int32)) ∨ ((65007 : Int32) < cx)) ∧ ((cx < (65534 : Int32)) ∨ ((65535 : Int32) < cx)))))) (iff_false_intro (fun q => hb29 q.1))] at k
      show Steps p.tables e below (s₁.setTop (mkF m 188 #[.val (.int cx), .unset] [])) _
      refine XS.iconst X0.here hx rfl (hb hby d2_188) ?_
      refine XS.goto X0.here hx rfl (pc0 := 189) (pc' := 193) rfl (hb hby d2_189) (by decide) (by decide) ?_
      refine XS.istoreN X0.here hx rfl (hb hby d2_193) rfl (l' := #[.val (.int cx), .val (.int (1 : Int32))]) rfl ?_
      refine XS.iloadN X0.here hx rfl (hb hby d2_194) rfl ?_
      refine XS.ifYes X0.here hx rfl (pc0 := 195) (pc' := 202) rfl (hb hby d2_195) rfl ((if0 _ _).trans (feq (show ¬ ((1 : Int32) = (0 : Int32)) from (by decide))).2) (by decide) (by decide) ?_
      refine XS.iconst X0.here hx rfl (hb hby d2_202) ?_
      exact retN X0 hx (t := .boolean) Bd.returns (by simp) (hb hby d2_203) k
  have tl31 : ∀ fs, (∀ (f : JFrame) (acts : List Action), f.method = m → f.locked = none → f.entered = [] → (doReturn e (s₁.setTop f) acts (some (.int (bz (((cx < (12272 : Int32)) ∨ ((12288 : Int32) < cx)) ∧ (((cx < (55296 : Int32)) ∨ ((63743 : Int32) < cx)) ∧ (((cx < (64976 : Int32)) ∨ ((65007 : Int32) < cx)) ∧ ((cx < (65534 : Int32)) ∨ ((65535 : Int32) < cx))))))))).1 = s₁.setFrames fs) → Steps p.tables e below (s₁.setTop (mkF m 142 #[.val (.int cx), .unset] [(.int (12272 : Int32)), (.int cx)])) (s₁.setFrames fs) := fun fs k => by
    by_cases hb16 : cx < (12272 : Int32)
    · refine XS.icmpYes X0.here hx rfl (pc0 := 142) (pc' := 152) rfl (hb hby d2_142) rfl (tlt hb16).1 (by decide) (by decide) ?_
      rw [bz_congr (P := (((cx < (12272 : Int32)) ∨ ((12288 : Int32) < cx)) ∧ (((cx < (55296 : Int32)) ∨ ((63743 : Int32) < cx)) ∧ (((cx < (64976 : Int32)) ∨ ((65007 : Int32) < cx)) ∧ ((cx < (65534 : Int32)) ∨ ((65535 : Int32) < cx)))))) (Q := (((cx < (55296 : Int32)) ∨ ((63743 : Int32) < cx)) ∧ (((cx < (64976 : Int32)) ∨ ((65007 : Int32) < cx)) ∧ ((cx < (65534 : Int32)) ∨ ((65535 : Int32) < cx))))) (and_iff_right (Or.inl hb16))] at k
      show Steps p.tables e below (s₁.setTop (mkF m 152 #[.val (.int cx), .unset] [])) _
      refine XS.iloadN X0.here hx rfl (hb hby d2_152) rfl ?_
      refine X0.ldcInt hx hown (mvT hZ (hw _ (List.mem_of_getElem? (i := 2) rfl))) (g := (mkF m 153 #[.val (.int cx), .unset] [(.int cx)])) rfl (hb hby d2_153) _ ?_
      exact tl28 fs k
    · refine XS.icmpNo X0.here hx rfl (hb hby d2_142) rfl (flt hb16).1 ?_
      rw [bz_congr (P := (((cx < (12272 : Int32)) ∨ ((12288 : Int32) < cx)) ∧ (((cx < (55296 : Int32)) ∨ ((63743 : Int32) < cx)) ∧ (((cx < (64976 : Int32)) ∨ ((65007 : Int32) < cx)) ∧ ((cx < (65534 : Int32)) ∨ ((65535 : Int32) < cx)))))) (Q := (((12288 : Int32) < cx) ∧ (((cx < (55296 : Int32)) ∨ ((63743 : Int32) < cx)) ∧ (((cx < (64976 : Int32)) ∨ ((65007 : Int32) < cx)) ∧ ((cx < (65534 : Int32)) ∨ ((65535 : Int32) < cx)))))) (and_congr (or_iff_right hb16) Iff.rfl)] at k
      show Steps p.tables e below (s₁.setTop (mkF m 145 #[.val (.int cx), .unset] [])) _
      refine XS.iloadN X0.here hx rfl (hb hby d2_145) rfl ?_
      refine XS.sipush X0.here hx rfl (hb hby d2_146) ?_
      exact tl30 fs k
  have tl33 : ∀ fs, (∀ (f : JFrame) (acts : List Action), f.method = m → f.locked = none → f.entered = [] → (doReturn e (s₁.setTop f) acts (some (.int (bz (((11263 : Int32) < cx) ∧ (((cx < (12272 : Int32)) ∨ ((12288 : Int32) < cx)) ∧ (((cx < (55296 : Int32)) ∨ ((63743 : Int32) < cx)) ∧ (((cx < (64976 : Int32)) ∨ ((65007 : Int32) < cx)) ∧ ((cx < (65534 : Int32)) ∨ ((65535 : Int32) < cx)))))))))).1 = s₁.setFrames fs) → Steps p.tables e below (s₁.setTop (mkF m 135 #[.val (.int cx), .unset] [(.int (11263 : Int32)), (.int cx)])) (s₁.setFrames fs) := fun fs k => by
    by_cases hb32 : (11263 : Int32) < cx
    · refine XS.icmpNo X0.here hx rfl (hb hby d2_135) rfl (tlt hb32).2.2.2 ?_
      rw [bz_congr (P := (((11263 : Int32) < cx) ∧ (((cx < (12272 : Int32)) ∨ ((12288 : Int32) < cx)) ∧ (((cx < (55296 : Int32)) ∨ ((63743 : Int32) < cx)) ∧ (((cx < (64976 : Int32)) ∨ ((65007 : Int32) < cx)) ∧ ((cx < (65534 : Int32)) ∨ ((65535 : Int32) < cx))))))) (Q := (((cx < (12272 : Int32)) ∨ ((12288 : Int32) < cx)) ∧ (((cx < (55296 : Int32)) ∨ ((63743 : Int32) < cx)) ∧ (((cx < (64976 : Int32)) ∨ ((65007 : Int32) < cx)) ∧ ((cx < (65534 : Int32)) ∨ ((65535 : Int32) < cx)))))) (and_iff_right hb32)] at k
      show Steps p.tables e below (s₁.setTop (mkF m 138 #[.val (.int cx), .unset] [])) _
      refine XS.iloadN X0.here hx rfl (hb hby d2_138) rfl ?_
      refine XS.sipush X0.here hx rfl (hb hby d2_139) ?_
      exact tl31 fs k
    · refine XS.icmpYes X0.here hx rfl (pc0 := 135) (pc' := 188) rfl (hb hby d2_135) rfl (flt hb32).2.2.2 (by decide) (by decide) ?_
      rw [bz_zero (P := (((11263 : Int32) < cx) ∧ (((cx < (12272 : Int32)) ∨ ((12288 : Int32) < cx)) ∧ (((cx < (55296 : Int32)) ∨ ((63743 : Int32) < cx)) ∧ (((cx < (64976 : Int32)) ∨ ((65007 : Int32) < cx)) ∧ ((cx < (65534 : Int32)) ∨ ((65535 : Int32) < cx))))))) (iff_false_intro (fun q => hb32 q.1))] at k
      show Steps p.tables e below (s₁.setTop (mkF m 188 #[.val (.int cx), .unset] [])) _
      refine XS.iconst X0.here hx rfl (hb hby d2_188) ?_
      refine XS.goto X0.here hx rfl (pc0 := 189) (pc' := 193) rfl (hb hby d2_189) (by decide) (by decide) ?_
      refine XS.istoreN X0.here hx rfl (hb hby d2_193) rfl (l' := #[.val (.int cx), .val (.int (1 : Int32))]) rfl ?_
      refine XS.iloadN X0.here hx rfl (hb hby d2_194) rfl ?_
      refine XS.ifYes X0.here hx rfl (pc0 := 195) (pc' := 202) rfl (hb hby d2_195) rfl ((if0 _ _).trans (feq (show ¬ ((1 : Int32) = (0 : Int32)) from (by decide))).2) (by decide) (by decide) ?_
      refine XS.iconst X0.here hx rfl (hb hby d2_202) ?_
      exact retN X0 hx (t := .boolean) Bd.returns (by simp) (hb hby d2_203) k
  have tl34 : ∀ fs, (∀ (f : JFrame) (acts : List Action), f.method = m → f.locked = none → f.entered = [] → (doReturn e (s₁.setTop f) acts (some (.int (bz (((cx < (8592 : Int32)) ∨ ((11263 : Int32) < cx)) ∧ (((cx < (12272 : Int32)) ∨ ((12288 : Int32) < cx)) ∧ (((cx < (55296 : Int32)) ∨ ((63743 : Int32) < cx)) ∧ (((cx < (64976 : Int32)) ∨ ((65007 : Int32) < cx)) ∧ ((cx < (65534 : Int32)) ∨ ((65535 : Int32) < cx)))))))))).1 = s₁.setFrames fs) → Steps p.tables e below (s₁.setTop (mkF m 128 #[.val (.int cx), .unset] [(.int (8592 : Int32)), (.int cx)])) (s₁.setFrames fs) := fun fs k => by
    by_cases hb15 : cx < (8592 : Int32)
    · refine XS.icmpYes X0.here hx rfl (pc0 := 128) (pc' := 138) rfl (hb hby d2_128) rfl (tlt hb15).1 (by decide) (by decide) ?_
      rw [bz_congr (P := (((cx < (8592 : Int32)) ∨ ((11263 : Int32) < cx)) ∧ (((cx < (12272 : Int32)) ∨ ((12288 : Int32) < cx)) ∧ (((cx < (55296 : Int32)) ∨ ((63743 : Int32) < cx)) ∧ (((cx < (64976 : Int32)) ∨ ((65007 : Int32) < cx)) ∧ ((cx < (65534 : Int32)) ∨ ((65535 : Int32) < cx))))))) (Q := (((cx < (12272 : Int32)) ∨ ((12288 : Int32) < cx)) ∧ (((cx < (55296 : Int32)) ∨ ((63743 : Int32) < cx)) ∧ (((cx < (64976 : Int32)) ∨ ((65007 : Int32) < cx)) ∧ ((cx < (65534 : Int32)) ∨ ((65535 : Int32) < cx)))))) (and_iff_right (Or.inl hb15))] at k
      show Steps p.tables e below (s₁.setTop (mkF m 138 #[.val (.int cx), .unset] [])) _
      refine XS.iloadN X0.here hx rfl (hb hby d2_138) rfl ?_
      refine XS.sipush X0.here hx rfl (hb hby d2_139) ?_
      exact tl31 fs k
    · refine XS.icmpNo X0.here hx rfl (hb hby d2_128) rfl (flt hb15).1 ?_
      rw [bz_congr (P := (((cx < (8592 : Int32)) ∨ ((11263 : Int32) < cx)) ∧ (((cx < (12272 : Int32)) ∨ ((12288 : Int32) < cx)) ∧ (((cx < (55296 : Int32)) ∨ ((63743 : Int32) < cx)) ∧ (((cx < (64976 : Int32)) ∨ ((65007 : Int32) < cx)) ∧ ((cx < (65534 : Int32)) ∨ ((65535 : Int32) < cx))))))) (Q := (((11263 : Int32) < cx) ∧ (((cx < (12272 : Int32)) ∨ ((12288 : Int32) < cx)) ∧ (((cx < (55296 : Int32)) ∨ ((63743 : Int32) < cx)) ∧ (((cx < (64976 : Int32)) ∨ ((65007 : Int32) < cx)) ∧ ((cx < (65534 : Int32)) ∨ ((65535 : Int32) < cx))))))) (and_congr (or_iff_right hb15) Iff.rfl)] at k
      show Steps p.tables e below (s₁.setTop (mkF m 131 #[.val (.int cx), .unset] [])) _
      refine XS.iloadN X0.here hx rfl (hb hby d2_131) rfl ?_
      refine XS.sipush X0.here hx rfl (hb hby d2_132) ?_
      exact tl33 fs k
  have tl36 : ∀ fs, (∀ (f : JFrame) (acts : List Action), f.method = m → f.locked = none → f.entered = [] → (doReturn e (s₁.setTop f) acts (some (.int (bz (((8303 : Int32) < cx) ∧ (((cx < (8592 : Int32)) ∨ ((11263 : Int32) < cx)) ∧ (((cx < (12272 : Int32)) ∨ ((12288 : Int32) < cx)) ∧ (((cx < (55296 : Int32)) ∨ ((63743 : Int32) < cx)) ∧ (((cx < (64976 : Int32)) ∨ ((65007 : Int32) < cx)) ∧ ((cx < (65534 : Int32)) ∨ ((65535 : Int32) < cx))))))))))).1 = s₁.setFrames fs) → Steps p.tables e below (s₁.setTop (mkF m 121 #[.val (.int cx), .unset] [(.int (8303 : Int32)), (.int cx)])) (s₁.setFrames fs) := fun fs k => by
    by_cases hb35 : (8303 : Int32) < cx
    · refine XS.icmpNo X0.here hx rfl (hb hby d2_121) rfl (tlt hb35).2.2.2 ?_
      rw [bz_congr (P := (((8303 : Int32) < cx) ∧ (((cx < (8592 : Int32)) ∨ ((11263 : Int32) < cx)) ∧ (((cx < (12272 : Int32)) ∨ ((12288 : Int32) < cx)) ∧ (((cx < (55296 : Int32)) ∨ ((63743 : Int32) < cx)) ∧ (((cx < (64976 : Int32)) ∨ ((65007 : Int32) < cx)) ∧ ((cx < (65534 : Int32)) ∨ ((65535 : Int32) < cx)))))))) (Q := (((cx < (8592 : Int32)) ∨ ((11263 : Int32) < cx)) ∧ (((cx < (12272 : Int32)) ∨ ((12288 : Int32) < cx)) ∧ (((cx < (55296 : Int32)) ∨ ((63743 : Int32) < cx)) ∧ (((cx < (64976 : Int32)) ∨ ((65007 : Int32) < cx)) ∧ ((cx < (65534 : Int32)) ∨ ((65535 : Int32) < cx))))))) (and_iff_right hb35)] at k
      show Steps p.tables e below (s₁.setTop (mkF m 124 #[.val (.int cx), .unset] [])) _
      refine XS.iloadN X0.here hx rfl (hb hby d2_124) rfl ?_
      refine XS.sipush X0.here hx rfl (hb hby d2_125) ?_
      exact tl34 fs k
    · refine XS.icmpYes X0.here hx rfl (pc0 := 121) (pc' := 188) rfl (hb hby d2_121) rfl (flt hb35).2.2.2 (by decide) (by decide) ?_
      rw [bz_zero (P := (((8303 : Int32) < cx) ∧ (((cx < (8592 : Int32)) ∨ ((11263 : Int32) < cx)) ∧ (((cx < (12272 : Int32)) ∨ ((12288 : Int32) < cx)) ∧ (((cx < (55296 : Int32)) ∨ ((63743 : Int32) < cx)) ∧ (((cx < (64976 : Int32)) ∨ ((65007 : Int32) < cx)) ∧ ((cx < (65534 : Int32)) ∨ ((65535 : Int32) < cx)))))))) (iff_false_intro (fun q => hb35 q.1))] at k
      show Steps p.tables e below (s₁.setTop (mkF m 188 #[.val (.int cx), .unset] [])) _
      refine XS.iconst X0.here hx rfl (hb hby d2_188) ?_
      refine XS.goto X0.here hx rfl (pc0 := 189) (pc' := 193) rfl (hb hby d2_189) (by decide) (by decide) ?_
      refine XS.istoreN X0.here hx rfl (hb hby d2_193) rfl (l' := #[.val (.int cx), .val (.int (1 : Int32))]) rfl ?_
      refine XS.iloadN X0.here hx rfl (hb hby d2_194) rfl ?_
      refine XS.ifYes X0.here hx rfl (pc0 := 195) (pc' := 202) rfl (hb hby d2_195) rfl ((if0 _ _).trans (feq (show ¬ ((1 : Int32) = (0 : Int32)) from (by decide))).2) (by decide) (by decide) ?_
      refine XS.iconst X0.here hx rfl (hb hby d2_202) ?_
      exact retN X0 hx (t := .boolean) Bd.returns (by simp) (hb hby d2_203) k
  have tl37 : ∀ fs, (∀ (f : JFrame) (acts : List Action), f.method = m → f.locked = none → f.entered = [] → (doReturn e (s₁.setTop f) acts (some (.int (bz (((cx < (8206 : Int32)) ∨ ((8303 : Int32) < cx)) ∧ (((cx < (8592 : Int32)) ∨ ((11263 : Int32) < cx)) ∧ (((cx < (12272 : Int32)) ∨ ((12288 : Int32) < cx)) ∧ (((cx < (55296 : Int32)) ∨ ((63743 : Int32) < cx)) ∧ (((cx < (64976 : Int32)) ∨ ((65007 : Int32) < cx)) ∧ ((cx < (65534 : Int32)) ∨ ((65535 : Int32) < cx))))))))))).1 = s₁.setFrames fs) → Steps p.tables e below (s₁.setTop (mkF m 114 #[.val (.int cx), .unset] [(.int (8206 : Int32)), (.int cx)])) (s₁.setFrames fs) := fun fs k => by
    by_cases hb14 : cx < (8206 : Int32)
    · refine XS.icmpYes X0.here hx rfl (pc0 := 114) (pc' := 124) rfl (hb hby d2_114) rfl (tlt hb14).1 (by decide) (by decide) ?_
      rw [bz_congr (P := (((cx < (8206 : Int32)) ∨ ((8303 : Int32) < cx)) ∧ (((cx < (8592 : Int32)) ∨ ((11263 : Int32) < cx)) ∧ (((cx < (12272 : Int32)) ∨ ((12288 : Int32) < cx)) ∧ (((cx < (55296 : Int32)) ∨ ((63743 : Int32) < cx)) ∧ (((cx < (64976 : Int32)) ∨ ((65007 : Int32) < cx)) ∧ ((cx < (65534 : Int32)) ∨ ((65535 : Int32) < cx)))))))) (Q := (((cx < (8592 : Int32)) ∨ ((11263 : Int32) < cx)) ∧ (((cx < (12272 : Int32)) ∨ ((12288 : Int32) < cx)) ∧ (((cx < (55296 : Int32)) ∨ ((63743 : Int32) < cx)) ∧ (((cx < (64976 : Int32)) ∨ ((65007 : Int32) < cx)) ∧ ((cx < (65534 : Int32)) ∨ ((65535 : Int32) < cx))))))) (and_iff_right (Or.inl hb14))] at k
      show Steps p.tables e below (s₁.setTop (mkF m 124 #[.val (.int cx), .unset] [])) _
      refine XS.iloadN X0.here hx rfl (hb hby d2_124) rfl ?_
      refine XS.sipush X0.here hx rfl (hb hby d2_125) ?_
      exact tl34 fs k
    · refine XS.icmpNo X0.here hx rfl (hb hby d2_114) rfl (flt hb14).1 ?_
      rw [bz_congr (P := (((cx < (8206 : Int32)) ∨ ((8303 : Int32) < cx)) ∧ (((cx < (8592 : Int32)) ∨ ((11263 : Int32) < cx)) ∧ (((cx < (12272 : Int32)) ∨ ((12288 : Int32) < cx)) ∧ (((cx < (55296 : Int32)) ∨ ((63743 : Int32) < cx)) ∧ (((cx < (64976 : Int32)) ∨ ((65007 : Int32) < cx)) ∧ ((cx < (65534 : Int32)) ∨ ((65535 : Int32) < cx)))))))) (Q := (((8303 : Int32) < cx) ∧ (((cx < (8592 : Int32)) ∨ ((11263 : Int32) < cx)) ∧ (((cx < (12272 : Int32)) ∨ ((12288 : Int32) < cx)) ∧ (((cx < (55296 : Int32)) ∨ ((63743 : Int32) < cx)) ∧ (((cx < (64976 : Int32)) ∨ ((65007 : Int32) < cx)) ∧ ((cx < (65534 : Int32)) ∨ ((65535 : Int32) < cx)))))))) (and_congr (or_iff_right hb14) Iff.rfl)] at k
      show Steps p.tables e below (s₁.setTop (mkF m 117 #[.val (.int cx), .unset] [])) _
      refine XS.iloadN X0.here hx rfl (hb hby d2_117) rfl ?_
      refine XS.sipush X0.here hx rfl (hb hby d2_118) ?_
      exact tl36 fs k
  have tl39 : ∀ fs, (∀ (f : JFrame) (acts : List Action), f.method = m → f.locked = none → f.entered = [] → (doReturn e (s₁.setTop f) acts (some (.int (bz (((8203 : Int32) < cx) ∧ (((cx < (8206 : Int32)) ∨ ((8303 : Int32) < cx)) ∧ (((cx < (8592 : Int32)) ∨ ((11263 : Int32) < cx)) ∧ (((cx < (12272 : Int32)) ∨ ((12288 : Int32) < cx)) ∧ (((cx < (55296 : Int32)) ∨ ((63743 : Int32) < cx)) ∧ (((cx < (64976 : Int32)) ∨ ((65007 : Int32) < cx)) ∧ ((cx < (65534 : Int32)) ∨ ((65535 : Int32) < cx)))))))))))).1 = s₁.setFrames fs) → Steps p.tables e below (s₁.setTop (mkF m 107 #[.val (.int cx), .unset] [(.int (8203 : Int32)), (.int cx)])) (s₁.setFrames fs) := fun fs k => by
    by_cases hb38 : (8203 : Int32) < cx
    · refine XS.icmpNo X0.here hx rfl (hb hby d2_107) rfl (tlt hb38).2.2.2 ?_
      rw [bz_congr (P := (((8203 : Int32) < cx) ∧ (((cx < (8206 : Int32)) ∨ ((8303 : Int32) < cx)) ∧ (((cx < (8592 : Int32)) ∨ ((11263 : Int32) < cx)) ∧ (((cx < (12272 : Int32)) ∨ ((12288 : Int32) < cx)) ∧ (((cx < (55296 : Int32)) ∨ ((63743 : Int32) < cx)) ∧ (((cx < (64976 : Int32)) ∨ ((65007 : Int32) < cx)) ∧ ((cx < (65534 : Int32)) ∨ ((65535 : Int32) < cx))))))))) (Q := (((cx < (8206 : Int32)) ∨ ((8303 : Int32) < cx)) ∧ (((cx < (8592 : Int32)) ∨ ((11263 : Int32) < cx)) ∧ (((cx < (12272 : Int32)) ∨ ((12288 : Int32) < cx)) ∧ (((cx < (55296 : Int32)) ∨ ((63743 : Int32) < cx)) ∧ (((cx < (64976 : Int32)) ∨ ((65007 : Int32) < cx)) ∧ ((cx < (65534 : Int32)) ∨ ((65535 : Int32) < cx)))))))) (and_iff_right hb38)] at k
      show Steps p.tables e below (s₁.setTop (mkF m 110 #[.val (.int cx), .unset] [])) _
      refine XS.iloadN X0.here hx rfl (hb hby d2_110) rfl ?_
      refine XS.sipush X0.here hx rfl (hb hby d2_111) ?_
      exact tl37 fs k
    · refine XS.icmpYes X0.here hx rfl (pc0 := 107) (pc' := 188) rfl (hb hby d2_107) rfl (flt hb38).2.2.2 (by decide) (by decide) ?_
      rw [bz_zero (P := (((8203 : Int32) < cx) ∧ (((cx < (8206 : Int32)) ∨ ((8303 : Int32) < cx)) ∧ (((cx < (8592 : Int32)) ∨ ((11263 : Int32) < cx)) ∧ (((cx < (12272 : Int32)) ∨ ((12288 : Int32) < cx)) ∧ (((cx < (55296 : Int32)) ∨ ((63743 : Int32) < cx)) ∧ (((cx < (64976 : Int32)) ∨ ((65007 : Int32) < cx)) ∧ ((cx < (65534 : Int32)) ∨ ((65535 : Int32) < cx))))))))) (iff_false_intro (fun q => hb38 q.1))] at k
      show Steps p.tables e below (s₁.setTop (mkF m 188 #[.val (.int cx), .unset] [])) _
      refine XS.iconst X0.here hx rfl (hb hby d2_188) ?_
      refine XS.goto X0.here hx rfl (pc0 := 189) (pc' := 193) rfl (hb hby d2_189) (by decide) (by decide) ?_
      refine XS.istoreN X0.here hx rfl (hb hby d2_193) rfl (l' := #[.val (.int cx), .val (.int (1 : Int32))]) rfl ?_
      refine XS.iloadN X0.here hx rfl (hb hby d2_194) rfl ?_
      refine XS.ifYes X0.here hx rfl (pc0 := 195) (pc' := 202) rfl (hb hby d2_195) rfl ((if0 _ _).trans (feq (show ¬ ((1 : Int32) = (0 : Int32)) from (by decide))).2) (by decide) (by decide) ?_
      refine XS.iconst X0.here hx rfl (hb hby d2_202) ?_
      exact retN X0 hx (t := .boolean) Bd.returns (by simp) (hb hby d2_203) k
  have tl40 : ∀ fs, (∀ (f : JFrame) (acts : List Action), f.method = m → f.locked = none → f.entered = [] → (doReturn e (s₁.setTop f) acts (some (.int (bz (((cx < (8192 : Int32)) ∨ ((8203 : Int32) < cx)) ∧ (((cx < (8206 : Int32)) ∨ ((8303 : Int32) < cx)) ∧ (((cx < (8592 : Int32)) ∨ ((11263 : Int32) < cx)) ∧ (((cx < (12272 : Int32)) ∨ ((12288 : Int32) < cx)) ∧ (((cx < (55296 : Int32)) ∨ ((63743 : Int32) < cx)) ∧ (((cx < (64976 : Int32)) ∨ ((65007 : Int32) < cx)) ∧ ((cx < (65534 : Int32)) ∨ ((65535 : Int32) < cx)))))))))))).1 = s₁.setFrames fs) → Steps p.tables e below (s₁.setTop (mkF m 100 #[.val (.int cx), .unset] [(.int (8192 : Int32)), (.int cx)])) (s₁.setFrames fs) := fun fs k => by
    by_cases hb13 : cx < (8192 : Int32)
    · refine XS.icmpYes X0.here hx rfl (pc0 := 100) (pc' := 110) rfl (hb hby d2_100) rfl (tlt hb13).1 (by decide) (by decide) ?_
      rw [bz_congr (P := (((cx < (8192 : Int32)) ∨ ((8203 : Int32) < cx)) ∧ (((cx < (8206 : Int32)) ∨ ((8303 : Int32) < cx)) ∧ (((cx < (8592 : Int32)) ∨ ((11263 : Int32) < cx)) ∧ (((cx < (12272 : Int32)) ∨ ((12288 : Int32) < cx)) ∧ (((cx < (55296 : Int32)) ∨ ((63743 : Int32) < cx)) ∧ (((cx < (64976 : Int32)) ∨ ((65007 : Int32) < cx)) ∧ ((cx < (65534 : Int32)) ∨ ((65535 : Int32) < cx))))))))) (Q := (((cx < (8206 : Int32)) ∨ ((8303 : Int32) < cx)) ∧ (((cx < (8592 : Int32)) ∨ ((11263 : Int32) < cx)) ∧ (((cx < (12272 : Int32)) ∨ ((12288 : Int32) < cx)) ∧ (((cx < (55296 : Int32)) ∨ ((63743 : Int32) < cx)) ∧ (((cx < (64976 : Int32)) ∨ ((65007 : Int32) < cx)) ∧ ((cx < (65534 : Int32)) ∨ ((65535 : Int32) < cx)))))))) (and_iff_right (Or.inl hb13))] at k
      show Steps p.tables e below (s₁.setTop (mkF m 110 #[.val (.int cx), .unset] [])) _
      refine XS.iloadN X0.here hx rfl (hb hby d2_110) rfl ?_
      refine XS.sipush X0.here hx rfl (hb hby d2_111) ?_
      exact tl37 fs k
    · refine XS.icmpNo X0.here hx rfl (hb hby d2_100) rfl (flt hb13).1 ?_
      rw [bz_congr (P := (((cx < (8192 : Int32)) ∨ ((8203 : Int32) < cx)) ∧ (((cx < (8206 : Int32)) ∨ ((8303 : Int32) < cx)) ∧ (((cx < (8592 : Int32)) ∨ ((11263 : Int32) < cx)) ∧ (((cx < (12272 : Int32)) ∨ ((12288 : Int32) < cx)) ∧ (((cx < (55296 : Int32)) ∨ ((63743 : Int32) < cx)) ∧ (((cx < (64976 : Int32)) ∨ ((65007 : Int32) < cx)) ∧ ((cx < (65534 : Int32)) ∨ ((65535 : Int32) < cx))))))))) (Q := (((8203 : Int32) < cx) ∧ (((cx < (8206 : Int32)) ∨ ((8303 : Int32) < cx)) ∧ (((cx < (8592 : Int32)) ∨ ((11263 : Int32) < cx)) ∧ (((cx < (12272 : Int32)) ∨ ((12288 : Int32) < cx)) ∧ (((cx < (55296 : Int32)) ∨ ((63743 : Int32) < cx)) ∧ (((cx < (64976 : Int32)) ∨ ((65007 : Int32) < cx)) ∧ ((cx < (65534 : Int32)) ∨ ((65535 : Int32) < cx))))))))) (and_congr (or_iff_right hb13) Iff.rfl)] at k
      show Steps p.tables e below (s₁.setTop (mkF m 103 #[.val (.int cx), .unset] [])) _
      refine XS.iloadN X0.here hx rfl (hb hby d2_103) rfl ?_
      refine XS.sipush X0.here hx rfl (hb hby d2_104) ?_
      exact tl39 fs k
  have tl41 : ∀ fs, (∀ (f : JFrame) (acts : List Action), f.method = m → f.locked = none → f.entered = [] → (doReturn e (s₁.setTop f) acts (some (.int (bz ((¬ (cx = (894 : Int32))) ∧ (((cx < (8192 : Int32)) ∨ ((8203 : Int32) < cx)) ∧ (((cx < (8206 : Int32)) ∨ ((8303 : Int32) < cx)) ∧ (((cx < (8592 : Int32)) ∨ ((11263 : Int32) < cx)) ∧ (((cx < (12272 : Int32)) ∨ ((12288 : Int32) < cx)) ∧ (((cx < (55296 : Int32)) ∨ ((63743 : Int32) < cx)) ∧ (((cx < (64976 : Int32)) ∨ ((65007 : Int32) < cx)) ∧ ((cx < (65534 : Int32)) ∨ ((65535 : Int32) < cx))))))))))))).1 = s₁.setFrames fs) → Steps p.tables e below (s₁.setTop (mkF m 93 #[.val (.int cx), .unset] [(.int (894 : Int32)), (.int cx)])) (s₁.setFrames fs) := fun fs k => by
    by_cases hb12 : cx = (894 : Int32)
    · refine XS.icmpYes X0.here hx rfl (pc0 := 93) (pc' := 188) rfl (hb hby d2_93) rfl (teq hb12).1 (by decide) (by decide) ?_
      rw [bz_zero (P := ((¬ (cx = (894 : Int32))) ∧ (((cx < (8192 : Int32)) ∨ ((8203 : Int32) < cx)) ∧ (((cx < (8206 : Int32)) ∨ ((8303 : Int32) < cx)) ∧ (((cx < (8592 : Int32)) ∨ ((11263 : Int32) < cx)) ∧ (((cx < (12272 : Int32)) ∨ ((12288 : Int32) < cx)) ∧ (((cx < (55296 : Int32)) ∨ ((63743 : Int32) < cx)) ∧ (((cx < (64976 : Int32)) ∨ ((65007 : Int32) < cx)) ∧ ((cx < (65534 : Int32)) ∨ ((65535 : Int32) < cx)))))))))) (iff_false_intro (fun q => q.1 hb12))] at k
      show Steps p.tables e below (s₁.setTop (mkF m 188 #[.val (.int cx), .unset] [])) _
      refine XS.iconst X0.here hx rfl (hb hby d2_188) ?_
      refine XS.goto X0.here hx rfl (pc0 := 189) (pc' := 193) rfl (hb hby d2_189) (by decide) (by decide) ?_
      refine XS.istoreN X0.here hx rfl (hb hby d2_193) rfl (l' := #[.val (.int cx), .val (.int (1 : Int32))]) rfl ?_
      refine XS.iloadN X0.here hx rfl (hb hby d2_194) rfl ?_
      refine XS.ifYes X0.here hx rfl (pc0 := 195) (pc' := 202) rfl (hb hby d2_195) rfl ((if0 _ _).trans (feq (show ¬ ((1 : Int32) = (0 : Int32)) from (by decide))).2) (by decide) (by decide) ?_
      refine XS.iconst X0.here hx rfl (hb hby d2_202) ?_
      exact retN X0 hx (t := .boolean) Bd.returns (by simp) (hb hby d2_203) k
    · refine XS.icmpNo X0.here hx rfl (hb hby d2_93) rfl (feq hb12).1 ?_
      rw [bz_congr (P := ((¬ (cx = (894 : Int32))) ∧ (((cx < (8192 : Int32)) ∨ ((8203 : Int32) < cx)) ∧ (((cx < (8206 : Int32)) ∨ ((8303 : Int32) < cx)) ∧ (((cx < (8592 : Int32)) ∨ ((11263 : Int32) < cx)) ∧ (((cx < (12272 : Int32)) ∨ ((12288 : Int32) < cx)) ∧ (((cx < (55296 : Int32)) ∨ ((63743 : Int32) < cx)) ∧ (((cx < (64976 : Int32)) ∨ ((65007 : Int32) < cx)) ∧ ((cx < (65534 : Int32)) ∨ ((65535 : Int32) < cx)))))))))) (Q := (((cx < (8192 : Int32)) ∨ ((8203 : Int32) < cx)) ∧ (((cx < (8206 : Int32)) ∨ ((8303 : Int32) < cx)) ∧ (((cx < (8592 : Int32)) ∨ ((11263 : Int32) < cx)) ∧ (((cx < (12272 : Int32)) ∨ ((12288 : Int32) < cx)) ∧ (((cx < (55296 : Int32)) ∨ ((63743 : Int32) < cx)) ∧ (((cx < (64976 : Int32)) ∨ ((65007 : Int32) < cx)) ∧ ((cx < (65534 : Int32)) ∨ ((65535 : Int32) < cx))))))))) (and_iff_right hb12)] at k
      show Steps p.tables e below (s₁.setTop (mkF m 96 #[.val (.int cx), .unset] [])) _
      refine XS.iloadN X0.here hx rfl (hb hby d2_96) rfl ?_
      refine XS.sipush X0.here hx rfl (hb hby d2_97) ?_
      exact tl40 fs k
  have tl43 : ∀ fs, (∀ (f : JFrame) (acts : List Action), f.method = m → f.locked = none → f.entered = [] → (doReturn e (s₁.setTop f) acts (some (.int (bz (((879 : Int32) < cx) ∧ ((¬ (cx = (894 : Int32))) ∧ (((cx < (8192 : Int32)) ∨ ((8203 : Int32) < cx)) ∧ (((cx < (8206 : Int32)) ∨ ((8303 : Int32) < cx)) ∧ (((cx < (8592 : Int32)) ∨ ((11263 : Int32) < cx)) ∧ (((cx < (12272 : Int32)) ∨ ((12288 : Int32) < cx)) ∧ (((cx < (55296 : Int32)) ∨ ((63743 : Int32) < cx)) ∧ (((cx < (64976 : Int32)) ∨ ((65007 : Int32) < cx)) ∧ ((cx < (65534 : Int32)) ∨ ((65535 : Int32) < cx)))))))))))))).1 = s₁.setFrames fs) → Steps p.tables e below (s₁.setTop (mkF m 86 #[.val (.int cx), .unset] [(.int (879 : Int32)), (.int cx)])) (s₁.setFrames fs) := fun fs k => by
    by_cases hb42 : (879 : Int32) < cx
    · refine XS.icmpNo X0.here hx rfl (hb hby d2_86) rfl (tlt hb42).2.2.2 ?_
      rw [bz_congr (P := (((879 : Int32) < cx) ∧ ((¬ (cx = (894 : Int32))) ∧ (((cx < (8192 : Int32)) ∨ ((8203 : Int32) < cx)) ∧ (((cx < (8206 : Int32)) ∨ ((8303 : Int32) < cx)) ∧ (((cx < (8592 : Int32)) ∨ ((11263 : Int32) < cx)) ∧ (((cx < (12272 : Int32)) ∨ ((12288 : Int32) < cx)) ∧ (((cx < (55296 : Int32)) ∨ ((63743 : Int32) < cx)) ∧ (((cx < (64976 : Int32)) ∨ ((65007 : Int32) < cx)) ∧ ((cx < (65534 : Int32)) ∨ ((65535 : Int32) < cx))))))))))) (Q := ((¬ (cx = (894 : Int32))) ∧ (((cx < (8192 : Int32)) ∨ ((8203 : Int32) < cx)) ∧ (((cx < (8206 : Int32)) ∨ ((8303 : Int32) < cx)) ∧ (((cx < (8592 : Int32)) ∨ ((11263 : Int32) < cx)) ∧ (((cx < (12272 : Int32)) ∨ ((12288 : Int32) < cx)) ∧ (((cx < (55296 : Int32)) ∨ ((63743 : Int32) < cx)) ∧ (((cx < (64976 : Int32)) ∨ ((65007 : Int32) < cx)) ∧ ((cx < (65534 : Int32)) ∨ ((65535 : Int32) < cx)))))))))) (and_iff_right hb42)] at k
      show Steps p.tables e below (s₁.setTop (mkF m 89 #[.val (.int cx), .unset] [])) _
      refine XS.iloadN X0.here hx rfl (hb hby d2_89) rfl ?_
      refine XS.sipush X0.here hx rfl (hb hby d2_90) ?_
      exact tl41 fs k
    · refine XS.icmpYes X0.here hx rfl (pc0 := 86) (pc' := 188) rfl (hb hby d2_86) rfl (flt hb42).2.2.2 (by decide) (by decide) ?_
      rw [bz_zero (P := (((879 : Int32) < cx) ∧ ((¬ (cx = (894 : Int32))) ∧ (((cx < (8192 : Int32)) ∨ ((8203 : Int32) < cx)) ∧ (((cx < (8206 : Int32)) ∨ ((8303 : Int32) < cx)) ∧ (((cx < (8592 : Int32)) ∨ ((11263 : Int32) < cx)) ∧ (((cx < (12272 : Int32)) ∨ ((12288 : Int32) < cx)) ∧ (((cx < (55296 : Int32)) ∨ ((63743 : Int32) < cx)) ∧ (((cx < (64976 : Int32)) ∨ ((65007 : Int32) < cx)) ∧ ((cx < (65534 : Int32)) ∨ ((65535 : Int32) < cx))))))))))) (iff_false_intro (fun q => hb42 q.1))] at k
      show Steps p.tables e below (s₁.setTop (mkF m 188 #[.val (.int cx), .unset] [])) _
      refine XS.iconst X0.here hx rfl (hb hby d2_188) ?_
      refine XS.goto X0.here hx rfl (pc0 := 189) (pc' := 193) rfl (hb hby d2_189) (by decide) (by decide) ?_
      refine XS.istoreN X0.here hx rfl (hb hby d2_193) rfl (l' := #[.val (.int cx), .val (.int (1 : Int32))]) rfl ?_
      refine XS.iloadN X0.here hx rfl (hb hby d2_194) rfl ?_
      refine XS.ifYes X0.here hx rfl (pc0 := 195) (pc' := 202) rfl (hb hby d2_195) rfl ((if0 _ _).trans (feq (show ¬ ((1 : Int32) = (0 : Int32)) from (by decide))).2) (by decide) (by decide) ?_
      refine XS.iconst X0.here hx rfl (hb hby d2_202) ?_
      exact retN X0 hx (t := .boolean) Bd.returns (by simp) (hb hby d2_203) k
  have tl44 : ∀ fs, (∀ (f : JFrame) (acts : List Action), f.method = m → f.locked = none → f.entered = [] → (doReturn e (s₁.setTop f) acts (some (.int (bz (((cx < (768 : Int32)) ∨ ((879 : Int32) < cx)) ∧ ((¬ (cx = (894 : Int32))) ∧ (((cx < (8192 : Int32)) ∨ ((8203 : Int32) < cx)) ∧ (((cx < (8206 : Int32)) ∨ ((8303 : Int32) < cx)) ∧ (((cx < (8592 : Int32)) ∨ ((11263 : Int32) < cx)) ∧ (((cx < (12272 : Int32)) ∨ ((12288 : Int32) < cx)) ∧ (((cx < (55296 : Int32)) ∨ ((63743 : Int32) < cx)) ∧ (((cx < (64976 : Int32)) ∨ ((65007 : Int32) < cx)) ∧ ((cx < (65534 : Int32)) ∨ ((65535 : Int32) < cx)))))))))))))).1 = s₁.setFrames fs) → Steps p.tables e below (s₁.setTop (mkF m 79 #[.val (.int cx), .unset] [(.int (768 : Int32)), (.int cx)])) (s₁.setFrames fs) := fun fs k => by
    by_cases hb11 : cx < (768 : Int32)
    · refine XS.icmpYes X0.here hx rfl (pc0 := 79) (pc' := 89) rfl (hb hby d2_79) rfl (tlt hb11).1 (by decide) (by decide) ?_
      rw [bz_congr (P := (((cx < (768 : Int32)) ∨ ((879 : Int32) < cx)) ∧ ((¬ (cx = (894 : Int32))) ∧ (((cx < (8192 : Int32)) ∨ ((8203 : Int32) < cx)) ∧ (((cx < (8206 : Int32)) ∨ ((8303 : Int32) < cx)) ∧ (((cx < (8592 : Int32)) ∨ ((11263 : Int32) < cx)) ∧ (((cx < (12272 : Int32)) ∨ ((12288 : Int32) < cx)) ∧ (((cx < (55296 : Int32)) ∨ ((63743 : Int32) < cx)) ∧ (((cx < (64976 : Int32)) ∨ ((65007 : Int32) < cx)) ∧ ((cx < (65534 : Int32)) ∨ ((65535 : Int32) < cx))))))))))) (Q := ((¬ (cx = (894 : Int32))) ∧ (((cx < (8192 : Int32)) ∨ ((8203 : Int32) < cx)) ∧ (((cx < (8206 : Int32)) ∨ ((8303 : Int32) < cx)) ∧ (((cx < (8592 : Int32)) ∨ ((11263 : Int32) < cx)) ∧ (((cx < (12272 : Int32)) ∨ ((12288 : Int32) < cx)) ∧ (((cx < (55296 : Int32)) ∨ ((63743 : Int32) < cx)) ∧ (((cx < (64976 : Int32)) ∨ ((65007 : Int32) < cx)) ∧ ((cx < (65534 : Int32)) ∨ ((65535 : Int32) < cx)))))))))) (and_iff_right (Or.inl hb11))] at k
      show Steps p.tables e below (s₁.setTop (mkF m 89 #[.val (.int cx), .unset] [])) _
      refine XS.iloadN X0.here hx rfl (hb hby d2_89) rfl ?_
      refine XS.sipush X0.here hx rfl (hb hby d2_90) ?_
      exact tl41 fs k
    · refine XS.icmpNo X0.here hx rfl (hb hby d2_79) rfl (flt hb11).1 ?_
      rw [bz_congr (P := (((cx < (768 : Int32)) ∨ ((879 : Int32) < cx)) ∧ ((¬ (cx = (894 : Int32))) ∧ (((cx < (8192 : Int32)) ∨ ((8203 : Int32) < cx)) ∧ (((cx < (8206 : Int32)) ∨ ((8303 : Int32) < cx)) ∧ (((cx < (8592 : Int32)) ∨ ((11263 : Int32) < cx)) ∧ (((cx < (12272 : Int32)) ∨ ((12288 : Int32) < cx)) ∧ (((cx < (55296 : Int32)) ∨ ((63743 : Int32) < cx)) ∧ (((cx < (64976 : Int32)) ∨ ((65007 : Int32) < cx)) ∧ ((cx < (65534 : Int32)) ∨ ((65535 : Int32) < cx))))))))))) (Q := (((879 : Int32) < cx) ∧ ((¬ (cx = (894 : Int32))) ∧ (((cx < (8192 : Int32)) ∨ ((8203 : Int32) < cx)) ∧ (((cx < (8206 : Int32)) ∨ ((8303 : Int32) < cx)) ∧ (((cx < (8592 : Int32)) ∨ ((11263 : Int32) < cx)) ∧ (((cx < (12272 : Int32)) ∨ ((12288 : Int32) < cx)) ∧ (((cx < (55296 : Int32)) ∨ ((63743 : Int32) < cx)) ∧ (((cx < (64976 : Int32)) ∨ ((65007 : Int32) < cx)) ∧ ((cx < (65534 : Int32)) ∨ ((65535 : Int32) < cx))))))))))) (and_congr (or_iff_right hb11) Iff.rfl)] at k
      show Steps p.tables e below (s₁.setTop (mkF m 82 #[.val (.int cx), .unset] [])) _
      refine XS.iloadN X0.here hx rfl (hb hby d2_82) rfl ?_
      refine XS.sipush X0.here hx rfl (hb hby d2_83) ?_
      exact tl43 fs k
  have tl45 : ∀ fs, (∀ (f : JFrame) (acts : List Action), f.method = m → f.locked = none → f.entered = [] → (doReturn e (s₁.setTop f) acts (some (.int (bz ((¬ (cx = (247 : Int32))) ∧ (((cx < (768 : Int32)) ∨ ((879 : Int32) < cx)) ∧ ((¬ (cx = (894 : Int32))) ∧ (((cx < (8192 : Int32)) ∨ ((8203 : Int32) < cx)) ∧ (((cx < (8206 : Int32)) ∨ ((8303 : Int32) < cx)) ∧ (((cx < (8592 : Int32)) ∨ ((11263 : Int32) < cx)) ∧ (((cx < (12272 : Int32)) ∨ ((12288 : Int32) < cx)) ∧ (((cx < (55296 : Int32)) ∨ ((63743 : Int32) < cx)) ∧ (((cx < (64976 : Int32)) ∨ ((65007 : Int32) < cx)) ∧ ((cx < (65534 : Int32)) ∨ ((65535 : Int32) < cx))))))))))))))).1 = s₁.setFrames fs) → Steps p.tables e below (s₁.setTop (mkF m 72 #[.val (.int cx), .unset] [(.int (247 : Int32)), (.int cx)])) (s₁.setFrames fs) := fun fs k => by
    by_cases hb10 : cx = (247 : Int32)
    · refine XS.icmpYes X0.here hx rfl (pc0 := 72) (pc' := 188) rfl (hb hby d2_72) rfl (teq hb10).1 (by decide) (by decide) ?_
      rw [bz_zero (P := ((¬ (cx = (247 : Int32))) ∧ (((cx < (768 : Int32)) ∨ ((879 : Int32) < cx)) ∧ ((¬ (cx = (894 : Int32))) ∧ (((cx < (8192 : Int32)) ∨ ((8203 : Int32) < cx)) ∧ (((cx < (8206 : Int32)) ∨ ((8303 : Int32) < cx)) ∧ (((cx < (8592 : Int32)) ∨ ((11263 : Int32) < cx)) ∧ (((cx < (12272 : Int32)) ∨ ((12288 : Int32) < cx)) ∧ (((cx < (55296 : Int32)) ∨ ((63743 : Int32) < cx)) ∧ (((cx < (64976 : Int32)) ∨ ((65007 : Int32) < cx)) ∧ ((cx < (65534 : Int32)) ∨ ((65535 : Int32) < cx)))))))))))) (iff_false_intro (fun q => q.1 hb10))] at k
      show Steps p.tables e below (s₁.setTop (mkF m 188 #[.val (.int cx), .unset] [])) _
      refine XS.iconst X0.here hx rfl (hb hby d2_188) ?_
      refine XS.goto X0.here hx rfl (pc0 := 189) (pc' := 193) rfl (hb hby d2_189) (by decide) (by decide) ?_
      refine XS.istoreN X0.here hx rfl (hb hby d2_193) rfl (l' := #[.val (.int cx), .val (.int (1 : Int32))]) rfl ?_
      refine XS.iloadN X0.here hx rfl (hb hby d2_194) rfl ?_
      refine XS.ifYes X0.here hx rfl (pc0 := 195) (pc' := 202) rfl (hb hby d2_195) rfl ((if0 _ _).trans (feq (show ¬ ((1 : Int32) = (0 : Int32)) from (by decide))).2) (by decide) (by decide) ?_
      refine XS.iconst X0.here hx rfl (hb hby d2_202) ?_
      exact retN X0 hx (t := .boolean) Bd.returns (by simp) (hb hby d2_203) k
    · refine XS.icmpNo X0.here hx rfl (hb hby d2_72) rfl (feq hb10).1 ?_
      rw [bz_congr (P := ((¬ (cx = (247 : Int32))) ∧ (((cx < (768 : Int32)) ∨ ((879 : Int32) < cx)) ∧ ((¬ (cx = (894 : Int32))) ∧ (((cx < (8192 : Int32)) ∨ ((8203 : Int32) < cx)) ∧ (((cx < (8206 : Int32)) ∨ ((8303 : Int32) < cx)) ∧ (((cx < (8592 : Int32)) ∨ ((11263 : Int32) < cx)) ∧ (((cx < (12272 : Int32)) ∨ ((12288 : Int32) < cx)) ∧ (((cx < (55296 : Int32)) ∨ ((63743 : Int32) < cx)) ∧ (((cx < (64976 : Int32)) ∨ ((65007 : Int32) < cx)) ∧ ((cx < (65534 : Int32)) ∨ ((65535 : Int32) < cx)))))))))))) (Q := (((cx < (768 : Int32)) ∨ ((879 : Int32) < cx)) ∧ ((¬ (cx = (894 : Int32))) ∧ (((cx < (8192 : Int32)) ∨ ((8203 : Int32) < cx)) ∧ (((cx < (8206 : Int32)) ∨ ((8303 : Int32) < cx)) ∧ (((cx < (8592 : Int32)) ∨ ((11263 : Int32) < cx)) ∧ (((cx < (12272 : Int32)) ∨ ((12288 : Int32) < cx)) ∧ (((cx < (55296 : Int32)) ∨ ((63743 : Int32) < cx)) ∧ (((cx < (64976 : Int32)) ∨ ((65007 : Int32) < cx)) ∧ ((cx < (65534 : Int32)) ∨ ((65535 : Int32) < cx))))))))))) (and_iff_right hb10)] at k
      show Steps p.tables e below (s₁.setTop (mkF m 75 #[.val (.int cx), .unset] [])) _
      refine XS.iloadN X0.here hx rfl (hb hby d2_75) rfl ?_
      refine XS.sipush X0.here hx rfl (hb hby d2_76) ?_
      exact tl44 fs k
  have tl46 : ∀ fs, (∀ (f : JFrame) (acts : List Action), f.method = m → f.locked = none → f.entered = [] → (doReturn e (s₁.setTop f) acts (some (.int (bz ((¬ (cx = (215 : Int32))) ∧ ((¬ (cx = (247 : Int32))) ∧ (((cx < (768 : Int32)) ∨ ((879 : Int32) < cx)) ∧ ((¬ (cx = (894 : Int32))) ∧ (((cx < (8192 : Int32)) ∨ ((8203 : Int32) < cx)) ∧ (((cx < (8206 : Int32)) ∨ ((8303 : Int32) < cx)) ∧ (((cx < (8592 : Int32)) ∨ ((11263 : Int32) < cx)) ∧ (((cx < (12272 : Int32)) ∨ ((12288 : Int32) < cx)) ∧ (((cx < (55296 : Int32)) ∨ ((63743 : Int32) < cx)) ∧ (((cx < (64976 : Int32)) ∨ ((65007 : Int32) < cx)) ∧ ((cx < (65534 : Int32)) ∨ ((65535 : Int32) < cx)))))))))))))))).1 = s₁.setFrames fs) → Steps p.tables e below (s₁.setTop (mkF m 65 #[.val (.int cx), .unset] [(.int (215 : Int32)), (.int cx)])) (s₁.setFrames fs) := fun fs k => by
    by_cases hb9 : cx = (215 : Int32)
    · refine XS.icmpYes X0.here hx rfl (pc0 := 65) (pc' := 188) rfl (hb hby d2_65) rfl (teq hb9).1 (by decide) (by decide) ?_
      rw [bz_zero (P := ((¬ (cx = (215 : Int32))) ∧ ((¬ (cx = (247 : Int32))) ∧ (((cx < (768 : Int32)) ∨ ((879 : Int32) < cx)) ∧ ((¬ (cx = (894 : Int32))) ∧ (((cx < (8192 : Int32)) ∨ ((8203 : Int32) < cx)) ∧ (((cx < (8206 : Int32)) ∨ ((8303 : Int32) < cx)) ∧ (((cx < (8592 : Int32)) ∨ ((11263 : Int32) < cx)) ∧ (((cx < (12272 : Int32)) ∨ ((12288 : Int32) < cx)) ∧ (((cx < (55296 : Int32)) ∨ ((63743 : Int32) < cx)) ∧ (((cx < (64976 : Int32)) ∨ ((65007 : Int32) < cx)) ∧ ((cx < (65534 : Int32)) ∨ ((65535 : Int32) < cx))))))))))))) (iff_false_intro (fun q => q.1 hb9))] at k
      show Steps p.tables e below (s₁.setTop (mkF m 188 #[.val (.int cx), .unset] [])) _
      refine XS.iconst X0.here hx rfl (hb hby d2_188) ?_
      refine XS.goto X0.here hx rfl (pc0 := 189) (pc' := 193) rfl (hb hby d2_189) (by decide) (by decide) ?_
      refine XS.istoreN X0.here hx rfl (hb hby d2_193) rfl (l' := #[.val (.int cx), .val (.int (1 : Int32))]) rfl ?_
      refine XS.iloadN X0.here hx rfl (hb hby d2_194) rfl ?_
      refine XS.ifYes X0.here hx rfl (pc0 := 195) (pc' := 202) rfl (hb hby d2_195) rfl ((if0 _ _).trans (feq (show ¬ ((1 : Int32) = (0 : Int32)) from (by decide))).2) (by decide) (by decide) ?_
      refine XS.iconst X0.here hx rfl (hb hby d2_202) ?_
      exact retN X0 hx (t := .boolean) Bd.returns (by simp) (hb hby d2_203) k
    · refine XS.icmpNo X0.here hx rfl (hb hby d2_65) rfl (feq hb9).1 ?_
      rw [bz_congr (P := ((¬ (cx = (215 : Int32))) ∧ ((¬ (cx = (247 : Int32))) ∧ (((cx < (768 : Int32)) ∨ ((879 : Int32) < cx)) ∧ ((¬ (cx = (894 : Int32))) ∧ (((cx < (8192 : Int32)) ∨ ((8203 : Int32) < cx)) ∧ (((cx < (8206 : Int32)) ∨ ((8303 : Int32) < cx)) ∧ (((cx < (8592 : Int32)) ∨ ((11263 : Int32) < cx)) ∧ (((cx < (12272 : Int32)) ∨ ((12288 : Int32) < cx)) ∧ (((cx < (55296 : Int32)) ∨ ((63743 : Int32) < cx)) ∧ (((cx < (64976 : Int32)) ∨ ((65007 : Int32) < cx)) ∧ ((cx < (65534 : Int32)) ∨ ((65535 : Int32) < cx))))))))))))) (Q := ((¬ (cx = (247 : Int32))) ∧ (((cx < (768 : Int32)) ∨ ((879 : Int32) < cx)) ∧ ((¬ (cx = (894 : Int32))) ∧ (((cx < (8192 : Int32)) ∨ ((8203 : Int32) < cx)) ∧ (((cx < (8206 : Int32)) ∨ ((8303 : Int32) < cx)) ∧ (((cx < (8592 : Int32)) ∨ ((11263 : Int32) < cx)) ∧ (((cx < (12272 : Int32)) ∨ ((12288 : Int32) < cx)) ∧ (((cx < (55296 : Int32)) ∨ ((63743 : Int32) < cx)) ∧ (((cx < (64976 : Int32)) ∨ ((65007 : Int32) < cx)) ∧ ((cx < (65534 : Int32)) ∨ ((65535 : Int32) < cx)))))))))))) (and_iff_right hb9)] at k
      show Steps p.tables e below (s₁.setTop (mkF m 68 #[.val (.int cx), .unset] [])) _
      refine XS.iloadN X0.here hx rfl (hb hby d2_68) rfl ?_
      refine XS.sipush X0.here hx rfl (hb hby d2_69) ?_
      exact tl45 fs k
  have tl48 : ∀ fs, (∀ (f : JFrame) (acts : List Action), f.method = m → f.locked = none → f.entered = [] → (doReturn e (s₁.setTop f) acts (some (.int (bz (((191 : Int32) < cx) ∧ ((¬ (cx = (215 : Int32))) ∧ ((¬ (cx = (247 : Int32))) ∧ (((cx < (768 : Int32)) ∨ ((879 : Int32) < cx)) ∧ ((¬ (cx = (894 : Int32))) ∧ (((cx < (8192 : Int32)) ∨ ((8203 : Int32) < cx)) ∧ (((cx < (8206 : Int32)) ∨ ((8303 : Int32) < cx)) ∧ (((cx < (8592 : Int32)) ∨ ((11263 : Int32) < cx)) ∧ (((cx < (12272 : Int32)) ∨ ((12288 : Int32) < cx)) ∧ (((cx < (55296 : Int32)) ∨ ((63743 : Int32) < cx)) ∧ (((cx < (64976 : Int32)) ∨ ((65007 : Int32) < cx)) ∧ ((cx < (65534 : Int32)) ∨ ((65535 : Int32) < cx))))))))))))))))).1 = s₁.setFrames fs) → Steps p.tables e below (s₁.setTop (mkF m 58 #[.val (.int cx), .unset] [(.int (191 : Int32)), (.int cx)])) (s₁.setFrames fs) := fun fs k => by
    by_cases hb47 : (191 : Int32) < cx
    · refine XS.icmpNo X0.here hx rfl (hb hby d2_58) rfl (tlt hb47).2.2.2 ?_
      rw [bz_congr (P := (((191 : Int32) < cx) ∧ ((¬ (cx = (215 : Int32))) ∧ ((¬ (cx = (247 : Int32))) ∧ (((cx < (768 : Int32)) ∨ ((879 : Int32) < cx)) ∧ ((¬ (cx = (894 : Int32))) ∧ (((cx < (8192 : Int32)) ∨ ((8203 : Int32) < cx)) ∧ (((cx < (8206 : Int32)) ∨ ((8303 : Int32) < cx)) ∧ (((cx < (8592 : Int32)) ∨ ((11263 : Int32) < cx)) ∧ (((cx < (12272 : Int32)) ∨ ((12288 : Int32) < cx)) ∧ (((cx < (55296 : Int32)) ∨ ((63743 : Int32) < cx)) ∧ (((cx < (64976 : Int32)) ∨ ((65007 : Int32) < cx)) ∧ ((cx < (65534 : Int32)) ∨ ((65535 : Int32) < cx)))))))))))))) (Q := ((¬ (cx = (215 : Int32))) ∧ ((¬ (cx = (247 : Int32))) ∧ (((cx < (768 : Int32)) ∨ ((879 : Int32) < cx)) ∧ ((¬ (cx = (894 : Int32))) ∧ (((cx < (8192 : Int32)) ∨ ((8203 : Int32) < cx)) ∧ (((cx < (8206 : Int32)) ∨ ((8303 : Int32) < cx)) ∧ (((cx < (8592 : Int32)) ∨ ((11263 : Int32) < cx)) ∧ (((cx < (12272 : Int32)) ∨ ((12288 : Int32) < cx)) ∧ (((cx < (55296 : Int32)) ∨ ((63743 : Int32) < cx)) ∧ (((cx < (64976 : Int32)) ∨ ((65007 : Int32) < cx)) ∧ ((cx < (65534 : Int32)) ∨ ((65535 : Int32) < cx))))))))))))) (and_iff_right hb47)] at k
      show Steps p.tables e below (s₁.setTop (mkF m 61 #[.val (.int cx), .unset] [])) _
      refine XS.iloadN X0.here hx rfl (hb hby d2_61) rfl ?_
      refine XS.sipush X0.here hx rfl (hb hby d2_62) ?_
      exact tl46 fs k
    · refine XS.icmpYes X0.here hx rfl (pc0 := 58) (pc' := 188) rfl (hb hby d2_58) rfl (flt hb47).2.2.2 (by decide) (by decide) ?_
      rw [bz_zero (P := (((191 : Int32) < cx) ∧ ((¬ (cx = (215 : Int32))) ∧ ((¬ (cx = (247 : Int32))) ∧ (((cx < (768 : Int32)) ∨ ((879 : Int32) < cx)) ∧ ((¬ (cx = (894 : Int32))) ∧ (((cx < (8192 : Int32)) ∨ ((8203 : Int32) < cx)) ∧ (((cx < (8206 : Int32)) ∨ ((8303 : Int32) < cx)) ∧ (((cx < (8592 : Int32)) ∨ ((11263 : Int32) < cx)) ∧ (((cx < (12272 : Int32)) ∨ ((12288 : Int32) < cx)) ∧ (((cx < (55296 : Int32)) ∨ ((63743 : Int32) < cx)) ∧ (((cx < (64976 : Int32)) ∨ ((65007 : Int32) < cx)) ∧ ((cx < (65534 : Int32)) ∨ ((65535 : Int32) < cx)))))))))))))) (iff_false_intro (fun q => hb47 q.1))] at k
      show Steps p.tables e below (s₁.setTop (mkF m 188 #[.val (.int cx), .unset] [])) _
      refine XS.iconst X0.here hx rfl (hb hby d2_188) ?_
      refine XS.goto X0.here hx rfl (pc0 := 189) (pc' := 193) rfl (hb hby d2_189) (by decide) (by decide) ?_
      refine XS.istoreN X0.here hx rfl (hb hby d2_193) rfl (l' := #[.val (.int cx), .val (.int (1 : Int32))]) rfl ?_
      refine XS.iloadN X0.here hx rfl (hb hby d2_194) rfl ?_
      refine XS.ifYes X0.here hx rfl (pc0 := 195) (pc' := 202) rfl (hb hby d2_195) rfl ((if0 _ _).trans (feq (show ¬ ((1 : Int32) = (0 : Int32)) from (by decide))).2) (by decide) (by decide) ?_
      refine XS.iconst X0.here hx rfl (hb hby d2_202) ?_
      exact retN X0 hx (t := .boolean) Bd.returns (by simp) (hb hby d2_203) k
  have tl49 : ∀ fs, (∀ (f : JFrame) (acts : List Action), f.method = m → f.locked = none → f.entered = [] → (doReturn e (s₁.setTop f) acts (some (.int (bz (((cx < (123 : Int32)) ∨ ((191 : Int32) < cx)) ∧ ((¬ (cx = (215 : Int32))) ∧ ((¬ (cx = (247 : Int32))) ∧ (((cx < (768 : Int32)) ∨ ((879 : Int32) < cx)) ∧ ((¬ (cx = (894 : Int32))) ∧ (((cx < (8192 : Int32)) ∨ ((8203 : Int32) < cx)) ∧ (((cx < (8206 : Int32)) ∨ ((8303 : Int32) < cx)) ∧ (((cx < (8592 : Int32)) ∨ ((11263 : Int32) < cx)) ∧ (((cx < (12272 : Int32)) ∨ ((12288 : Int32) < cx)) ∧ (((cx < (55296 : Int32)) ∨ ((63743 : Int32) < cx)) ∧ (((cx < (64976 : Int32)) ∨ ((65007 : Int32) < cx)) ∧ ((cx < (65534 : Int32)) ∨ ((65535 : Int32) < cx))))))))))))))))).1 = s₁.setFrames fs) → Steps p.tables e below (s₁.setTop (mkF m 51 #[.val (.int cx), .unset] [(.int (123 : Int32)), (.int cx)])) (s₁.setFrames fs) := fun fs k => by
    by_cases hb8 : cx < (123 : Int32)
    · refine XS.icmpYes X0.here hx rfl (pc0 := 51) (pc' := 61) rfl (hb hby d2_51) rfl (tlt hb8).1 (by decide) (by decide) ?_
      rw [bz_congr (P := (((cx < (123 : Int32)) ∨ ((191 : Int32) < cx)) ∧ ((¬ (cx = (215 : Int32))) ∧ ((¬ (cx = (247 : Int32))) ∧ (((cx < (768 : Int32)) ∨ ((879 : Int32) < cx)) ∧ ((¬ (cx = (894 : Int32))) ∧ (((cx < (8192 : Int32)) ∨ ((8203 : Int32) < cx)) ∧ (((cx < (8206 : Int32)) ∨ ((8303 : Int32) < cx)) ∧ (((cx < (8592 : Int32)) ∨ ((11263 : Int32) < cx)) ∧ (((cx < (12272 : Int32)) ∨ ((12288 : Int32) < cx)) ∧ (((cx < (55296 : Int32)) ∨ ((63743 : Int32) < cx)) ∧ (((cx < (64976 : Int32)) ∨ ((65007 : Int32) < cx)) ∧ ((cx < (65534 : Int32)) ∨ ((65535 : Int32) < cx)))))))))))))) (Q := ((¬ (cx = (215 : Int32))) ∧ ((¬ (cx = (247 : Int32))) ∧ (((cx < (768 : Int32)) ∨ ((879 : Int32) < cx)) ∧ ((¬ (cx = (894 : Int32))) ∧ (((cx < (8192 : Int32)) ∨ ((8203 : Int32) < cx)) ∧ (((cx < (8206 : Int32)) ∨ ((8303 : Int32) < cx)) ∧ (((cx < (8592 : Int32)) ∨ ((11263 : Int32) < cx)) ∧ (((cx < (12272 : Int32)) ∨ ((12288 : Int32) < cx)) ∧ (((cx < (55296 : Int32)) ∨ ((63743 : Int32) < cx)) ∧ (((cx < (64976 : Int32)) ∨ ((65007 : Int32) < cx)) ∧ ((cx < (65534 : Int32)) ∨ ((65535 : Int32) < cx))))))))))))) (and_iff_right (Or.inl hb8))] at k
      show Steps p.tables e below (s₁.setTop (mkF m 61 #[.val (.int cx), .unset] [])) _
      refine XS.iloadN X0.here hx rfl (hb hby d2_61) rfl ?_
      refine XS.sipush X0.here hx rfl (hb hby d2_62) ?_
      exact tl46 fs k
    · refine XS.icmpNo X0.here hx rfl (hb hby d2_51) rfl (flt hb8).1 ?_
      rw [bz_congr (P := (((cx < (123 : Int32)) ∨ ((191 : Int32) < cx)) ∧ ((¬ (cx = (215 : Int32))) ∧ ((¬ (cx = (247 : Int32))) ∧ (((cx < (768 : Int32)) ∨ ((879 : Int32) < cx)) ∧ ((¬ (cx = (894 : Int32))) ∧ (((cx < (8192 : Int32)) ∨ ((8203 : Int32) < cx)) ∧ (((cx < (8206 : Int32)) ∨ ((8303 : Int32) < cx)) ∧ (((cx < (8592 : Int32)) ∨ ((11263 : Int32) < cx)) ∧ (((cx < (12272 : Int32)) ∨ ((12288 : Int32) < cx)) ∧ (((cx < (55296 : Int32)) ∨ ((63743 : Int32) < cx)) ∧ (((cx < (64976 : Int32)) ∨ ((65007 : Int32) < cx)) ∧ ((cx < (65534 : Int32)) ∨ ((65535 : Int32) < cx)))))))))))))) (Q := (((191 : Int32) < cx) ∧ ((¬ (cx = (215 : Int32))) ∧ ((¬ (cx = (247 : Int32))) ∧ (((cx < (768 : Int32)) ∨ ((879 : Int32) < cx)) ∧ ((¬ (cx = (894 : Int32))) ∧ (((cx < (8192 : Int32)) ∨ ((8203 : Int32) < cx)) ∧ (((cx < (8206 : Int32)) ∨ ((8303 : Int32) < cx)) ∧ (((cx < (8592 : Int32)) ∨ ((11263 : Int32) < cx)) ∧ (((cx < (12272 : Int32)) ∨ ((12288 : Int32) < cx)) ∧ (((cx < (55296 : Int32)) ∨ ((63743 : Int32) < cx)) ∧ (((cx < (64976 : Int32)) ∨ ((65007 : Int32) < cx)) ∧ ((cx < (65534 : Int32)) ∨ ((65535 : Int32) < cx)))))))))))))) (and_congr (or_iff_right hb8) Iff.rfl)] at k
      show Steps p.tables e below (s₁.setTop (mkF m 54 #[.val (.int cx), .unset] [])) _
      refine XS.iloadN X0.here hx rfl (hb hby d2_54) rfl ?_
      refine XS.sipush X0.here hx rfl (hb hby d2_55) ?_
      exact tl48 fs k
  have tl50 : ∀ fs, (∀ (f : JFrame) (acts : List Action), f.method = m → f.locked = none → f.entered = [] → (doReturn e (s₁.setTop f) acts (some (.int (bz ((¬ (cx = (96 : Int32))) ∧ (((cx < (123 : Int32)) ∨ ((191 : Int32) < cx)) ∧ ((¬ (cx = (215 : Int32))) ∧ ((¬ (cx = (247 : Int32))) ∧ (((cx < (768 : Int32)) ∨ ((879 : Int32) < cx)) ∧ ((¬ (cx = (894 : Int32))) ∧ (((cx < (8192 : Int32)) ∨ ((8203 : Int32) < cx)) ∧ (((cx < (8206 : Int32)) ∨ ((8303 : Int32) < cx)) ∧ (((cx < (8592 : Int32)) ∨ ((11263 : Int32) < cx)) ∧ (((cx < (12272 : Int32)) ∨ ((12288 : Int32) < cx)) ∧ (((cx < (55296 : Int32)) ∨ ((63743 : Int32) < cx)) ∧ (((cx < (64976 : Int32)) ∨ ((65007 : Int32) < cx)) ∧ ((cx < (65534 : Int32)) ∨ ((65535 : Int32) < cx)))))))))))))))))).1 = s₁.setFrames fs) → Steps p.tables e below (s₁.setTop (mkF m 45 #[.val (.int cx), .unset] [(.int (96 : Int32)), (.int cx)])) (s₁.setFrames fs) := fun fs k => by
    by_cases hb7 : cx = (96 : Int32)
    · refine XS.icmpYes X0.here hx rfl (pc0 := 45) (pc' := 188) rfl (hb hby d2_45) rfl (teq hb7).1 (by decide) (by decide) ?_
      rw [bz_zero (P := ((¬ (cx = (96 : Int32))) ∧ (((cx < (123 : Int32)) ∨ ((191 : Int32) < cx)) ∧ ((¬ (cx = (215 : Int32))) ∧ ((¬ (cx = (247 : Int32))) ∧ (((cx < (768 : Int32)) ∨ ((879 : Int32) < cx)) ∧ ((¬ (cx = (894 : Int32))) ∧ (((cx < (8192 : Int32)) ∨ ((8203 : Int32) < cx)) ∧ (((cx < (8206 : Int32)) ∨ ((8303 : Int32) < cx)) ∧ (((cx < (8592 : Int32)) ∨ ((11263 : Int32) < cx)) ∧ (((cx < (12272 : Int32)) ∨ ((12288 : Int32) < cx)) ∧ (((cx < (55296 : Int32)) ∨ ((63743 : Int32) < cx)) ∧ (((cx < (64976 : Int32)) ∨ ((65007 : Int32) < cx)) ∧ ((cx < (65534 : Int32)) ∨ ((65535 : Int32) < cx))))))))))))))) (iff_false_intro (fun q => q.1 hb7))] at k
      show Steps p.tables e below (s₁.setTop (mkF m 188 #[.val (.int cx), .unset] [])) _
      refine XS.iconst X0.here hx rfl (hb hby d2_188) ?_
      refine XS.goto X0.here hx rfl (pc0 := 189) (pc' := 193) rfl (hb hby d2_189) (by decide) (by decide) ?_
      refine XS.istoreN X0.here hx rfl (hb hby d2_193) rfl (l' := #[.val (.int cx), .val (.int (1 : Int32))]) rfl ?_
      refine XS.iloadN X0.here hx rfl (hb hby d2_194) rfl ?_
      refine XS.ifYes X0.here hx rfl (pc0 := 195) (pc' := 202) rfl (hb hby d2_195) rfl ((if0 _ _).trans (feq (show ¬ ((1 : Int32) = (0 : Int32)) from (by decide))).2) (by decide) (by decide) ?_
      refine XS.iconst X0.here hx rfl (hb hby d2_202) ?_
      exact retN X0 hx (t := .boolean) Bd.returns (by simp) (hb hby d2_203) k
    · refine XS.icmpNo X0.here hx rfl (hb hby d2_45) rfl (feq hb7).1 ?_
      rw [bz_congr (P := ((¬ (cx = (96 : Int32))) ∧ (((cx < (123 : Int32)) ∨ ((191 : Int32) < cx)) ∧ ((¬ (cx = (215 : Int32))) ∧ ((¬ (cx = (247 : Int32))) ∧ (((cx < (768 : Int32)) ∨ ((879 : Int32) < cx)) ∧ ((¬ (cx = (894 : Int32))) ∧ (((cx < (8192 : Int32)) ∨ ((8203 : Int32) < cx)) ∧ (((cx < (8206 : Int32)) ∨ ((8303 : Int32) < cx)) ∧ (((cx < (8592 : Int32)) ∨ ((11263 : Int32) < cx)) ∧ (((cx < (12272 : Int32)) ∨ ((12288 : Int32) < cx)) ∧ (((cx < (55296 : Int32)) ∨ ((63743 : Int32) < cx)) ∧ (((cx < (64976 : Int32)) ∨ ((65007 : Int32) < cx)) ∧ ((cx < (65534 : Int32)) ∨ ((65535 : Int32) < cx))))))))))))))) (Q := (((cx < (123 : Int32)) ∨ ((191 : Int32) < cx)) ∧ ((¬ (cx = (215 : Int32))) ∧ ((¬ (cx = (247 : Int32))) ∧ (((cx < (768 : Int32)) ∨ ((879 : Int32) < cx)) ∧ ((¬ (cx = (894 : Int32))) ∧ (((cx < (8192 : Int32)) ∨ ((8203 : Int32) < cx)) ∧ (((cx < (8206 : Int32)) ∨ ((8303 : Int32) < cx)) ∧ (((cx < (8592 : Int32)) ∨ ((11263 : Int32) < cx)) ∧ (((cx < (12272 : Int32)) ∨ ((12288 : Int32) < cx)) ∧ (((cx < (55296 : Int32)) ∨ ((63743 : Int32) < cx)) ∧ (((cx < (64976 : Int32)) ∨ ((65007 : Int32) < cx)) ∧ ((cx < (65534 : Int32)) ∨ ((65535 : Int32) < cx)))))))))))))) (and_iff_right hb7)] at k
      show Steps p.tables e below (s₁.setTop (mkF m 48 #[.val (.int cx), .unset] [])) _
      refine XS.iloadN X0.here hx rfl (hb hby d2_48) rfl ?_
      refine XS.bipush X0.here hx rfl (hb hby d2_49) ?_
      exact tl49 fs k
  have tl52 : ∀ fs, (∀ (f : JFrame) (acts : List Action), f.method = m → f.locked = none → f.entered = [] → (doReturn e (s₁.setTop f) acts (some (.int (bz (((94 : Int32) < cx) ∧ ((¬ (cx = (96 : Int32))) ∧ (((cx < (123 : Int32)) ∨ ((191 : Int32) < cx)) ∧ ((¬ (cx = (215 : Int32))) ∧ ((¬ (cx = (247 : Int32))) ∧ (((cx < (768 : Int32)) ∨ ((879 : Int32) < cx)) ∧ ((¬ (cx = (894 : Int32))) ∧ (((cx < (8192 : Int32)) ∨ ((8203 : Int32) < cx)) ∧ (((cx < (8206 : Int32)) ∨ ((8303 : Int32) < cx)) ∧ (((cx < (8592 : Int32)) ∨ ((11263 : Int32) < cx)) ∧ (((cx < (12272 : Int32)) ∨ ((12288 : Int32) < cx)) ∧ (((cx < (55296 : Int32)) ∨ ((63743 : Int32) < cx)) ∧ (((cx < (64976 : Int32)) ∨ ((65007 : Int32) < cx)) ∧ ((cx < (65534 : Int32)) ∨ ((65535 : Int32) < cx))))))))))))))))))).1 = s₁.setFrames fs) → Steps p.tables e below (s₁.setTop (mkF m 39 #[.val (.int cx), .unset] [(.int (94 : Int32)), (.int cx)])) (s₁.setFrames fs) := fun fs k => by
    by_cases hb51 : (94 : Int32) < cx
    · refine XS.icmpNo X0.here hx rfl (hb hby d2_39) rfl (tlt hb51).2.2.2 ?_
      rw [bz_congr (P := (((94 : Int32) < cx) ∧ ((¬ (cx = (96 : Int32))) ∧ (((cx < (123 : Int32)) ∨ ((191 : Int32) < cx)) ∧ ((¬ (cx = (215 : Int32))) ∧ ((¬ (cx = (247 : Int32))) ∧ (((cx < (768 : Int32)) ∨ ((879 : Int32) < cx)) ∧ ((¬ (cx = (894 : Int32))) ∧ (((cx < (8192 : Int32)) ∨ ((8203 : Int32) < cx)) ∧ (((cx < (8206 : Int32)) ∨ ((8303 : Int32) < cx)) ∧ (((cx < (8592 : Int32)) ∨ ((11263 : Int32) < cx)) ∧ (((cx < (12272 : Int32)) ∨ ((12288 : Int32) < cx)) ∧ (((cx < (55296 : Int32)) ∨ ((63743 : Int32) < cx)) ∧ (((cx < (64976 : Int32)) ∨ ((65007 : Int32) < cx)) ∧ ((cx < (65534 : Int32)) ∨ ((65535 : Int32) < cx)))))))))))))))) (Q := ((¬ (cx = (96 : Int32))) ∧ (((cx < (123 : Int32)) ∨ ((191 : Int32) < cx)) ∧ ((¬ (cx = (215 : Int32))) ∧ ((¬ (cx = (247 : Int32))) ∧ (((cx < (768 : Int32)) ∨ ((879 : Int32) < cx)) ∧ ((¬ (cx = (894 : Int32))) ∧ (((cx < (8192 : Int32)) ∨ ((8203 : Int32) < cx)) ∧ (((cx < (8206 : Int32)) ∨ ((8303 : Int32) < cx)) ∧ (((cx < (8592 : Int32)) ∨ ((11263 : Int32) < cx)) ∧ (((cx < (12272 : Int32)) ∨ ((12288 : Int32) < cx)) ∧ (((cx < (55296 : Int32)) ∨ ((63743 : Int32) < cx)) ∧ (((cx < (64976 : Int32)) ∨ ((65007 : Int32) < cx)) ∧ ((cx < (65534 : Int32)) ∨ ((65535 : Int32) < cx))))))))))))))) (and_iff_right hb51)] at k
      show Steps p.tables e below (s₁.setTop (mkF m 42 #[.val (.int cx), .unset] [])) _
      refine XS.iloadN X0.here hx rfl (hb hby d2_42) rfl ?_
      refine XS.bipush X0.here hx rfl (hb hby d2_43) ?_
      exact tl50 fs k
    · refine XS.icmpYes X0.here hx rfl (pc0 := 39) (pc' := 188) rfl (hb hby d2_39) rfl (flt hb51).2.2.2 (by decide) (by decide) ?_
      rw [bz_zero (P := (((94 : Int32) < cx) ∧ ((¬ (cx = (96 : Int32))) ∧ (((cx < (123 : Int32)) ∨ ((191 : Int32) < cx)) ∧ ((¬ (cx = (215 : Int32))) ∧ ((¬ (cx = (247 : Int32))) ∧ (((cx < (768 : Int32)) ∨ ((879 : Int32) < cx)) ∧ ((¬ (cx = (894 : Int32))) ∧ (((cx < (8192 : Int32)) ∨ ((8203 : Int32) < cx)) ∧ (((cx < (8206 : Int32)) ∨ ((8303 : Int32) < cx)) ∧ (((cx < (8592 : Int32)) ∨ ((11263 : Int32) < cx)) ∧ (((cx < (12272 : Int32)) ∨ ((12288 : Int32) < cx)) ∧ (((cx < (55296 : Int32)) ∨ ((63743 : Int32) < cx)) ∧ (((cx < (64976 : Int32)) ∨ ((65007 : Int32) < cx)) ∧ ((cx < (65534 : Int32)) ∨ ((65535 : Int32) < cx)))))))))))))))) (iff_false_intro (fun q => hb51 q.1))] at k
      show Steps p.tables e below (s₁.setTop (mkF m 188 #[.val (.int cx), .unset] [])) _
      refine XS.iconst X0.here hx rfl (hb hby d2_188) ?_
      refine XS.goto X0.here hx rfl (pc0 := 189) (pc' := 193) rfl (hb hby d2_189) (by decide) (by decide) ?_
      refine XS.istoreN X0.here hx rfl (hb hby d2_193) rfl (l' := #[.val (.int cx), .val (.int (1 : Int32))]) rfl ?_
      refine XS.iloadN X0.here hx rfl (hb hby d2_194) rfl ?_
      refine XS.ifYes X0.here hx rfl (pc0 := 195) (pc' := 202) rfl (hb hby d2_195) rfl ((if0 _ _).trans (feq (show ¬ ((1 : Int32) = (0 : Int32)) from (by decide))).2) (by decide) (by decide) ?_
      refine XS.iconst X0.here hx rfl (hb hby d2_202) ?_
      exact retN X0 hx (t := .boolean) Bd.returns (by simp) (hb hby d2_203) k
  have tl53 : ∀ fs, (∀ (f : JFrame) (acts : List Action), f.method = m → f.locked = none → f.entered = [] → (doReturn e (s₁.setTop f) acts (some (.int (bz (((cx < (91 : Int32)) ∨ ((94 : Int32) < cx)) ∧ ((¬ (cx = (96 : Int32))) ∧ (((cx < (123 : Int32)) ∨ ((191 : Int32) < cx)) ∧ ((¬ (cx = (215 : Int32))) ∧ ((¬ (cx = (247 : Int32))) ∧ (((cx < (768 : Int32)) ∨ ((879 : Int32) < cx)) ∧ ((¬ (cx = (894 : Int32))) ∧ (((cx < (8192 : Int32)) ∨ ((8203 : Int32) < cx)) ∧ (((cx < (8206 : Int32)) ∨ ((8303 : Int32) < cx)) ∧ (((cx < (8592 : Int32)) ∨ ((11263 : Int32) < cx)) ∧ (((cx < (12272 : Int32)) ∨ ((12288 : Int32) < cx)) ∧ (((cx < (55296 : Int32)) ∨ ((63743 : Int32) < cx)) ∧ (((cx < (64976 : Int32)) ∨ ((65007 : Int32) < cx)) ∧ ((cx < (65534 : Int32)) ∨ ((65535 : Int32) < cx))))))))))))))))))).1 = s₁.setFrames fs) → Steps p.tables e below (s₁.setTop (mkF m 33 #[.val (.int cx), .unset] [(.int (91 : Int32)), (.int cx)])) (s₁.setFrames fs) := fun fs k => by
    by_cases hb6 : cx < (91 : Int32)
    · refine XS.icmpYes X0.here hx rfl (pc0 := 33) (pc' := 42) rfl (hb hby d2_33) rfl (tlt hb6).1 (by decide) (by decide) ?_
      rw [bz_congr (P := (((cx < (91 : Int32)) ∨ ((94 : Int32) < cx)) ∧ ((¬ (cx = (96 : Int32))) ∧ (((cx < (123 : Int32)) ∨ ((191 : Int32) < cx)) ∧ ((¬ (cx = (215 : Int32))) ∧ ((¬ (cx = (247 : Int32))) ∧ (((cx < (768 : Int32)) ∨ ((879 : Int32) < cx)) ∧ ((¬ (cx = (894 : Int32))) ∧ (((cx < (8192 : Int32)) ∨ ((8203 : Int32) < cx)) ∧ (((cx < (8206 : Int32)) ∨ ((8303 : Int32) < cx)) ∧ (((cx < (8592 : Int32)) ∨ ((11263 : Int32) < cx)) ∧ (((cx < (12272 : Int32)) ∨ ((12288 : Int32) < cx)) ∧ (((cx < (55296 : Int32)) ∨ ((63743 : Int32) < cx)) ∧ (((cx < (64976 : Int32)) ∨ ((65007 : Int32) < cx)) ∧ ((cx < (65534 : Int32)) ∨ ((65535 : Int32) < cx)))))))))))))))) (Q := ((¬ (cx = (96 : Int32))) ∧ (((cx < (123 : Int32)) ∨ ((191 : Int32) < cx)) ∧ ((¬ (cx = (215 : Int32))) ∧ ((¬ (cx = (247 : Int32))) ∧ (((cx < (768 : Int32)) ∨ ((879 : Int32) < cx)) ∧ ((¬ (cx = (894 : Int32))) ∧ (((cx < (8192 : Int32)) ∨ ((8203 : Int32) < cx)) ∧ (((cx < (8206 : Int32)) ∨ ((8303 : Int32) < cx)) ∧ (((cx < (8592 : Int32)) ∨ ((11263 : Int32) < cx)) ∧ (((cx < (12272 : Int32)) ∨ ((12288 : Int32) < cx)) ∧ (((cx < (55296 : Int32)) ∨ ((63743 : Int32) < cx)) ∧ (((cx < (64976 : Int32)) ∨ ((65007 : Int32) < cx)) ∧ ((cx < (65534 : Int32)) ∨ ((65535 : Int32) < cx))))))))))))))) (and_iff_right (Or.inl hb6))] at k
      show Steps p.tables e below (s₁.setTop (mkF m 42 #[.val (.int cx), .unset] [])) _
      refine XS.iloadN X0.here hx rfl (hb hby d2_42) rfl ?_
      refine XS.bipush X0.here hx rfl (hb hby d2_43) ?_
      exact tl50 fs k
    · refine XS.icmpNo X0.here hx rfl (hb hby d2_33) rfl (flt hb6).1 ?_
      rw [bz_congr (P := (((cx < (91 : Int32)) ∨ ((94 : Int32) < cx)) ∧ ((¬ (cx = (96 : Int32))) ∧ (((cx < (123 : Int32)) ∨ ((191 : Int32) < cx)) ∧ ((¬ (cx = (215 : Int32))) ∧ ((¬ (cx = (247 : Int32))) ∧ (((cx < (768 : Int32)) ∨ ((879 : Int32) < cx)) ∧ ((¬ (cx = (894 : Int32))) ∧ (((cx < (8192 : Int32)) ∨ ((8203 : Int32) < cx)) ∧ (((cx < (8206 : Int32)) ∨ ((8303 : Int32) < cx)) ∧ (((cx < (8592 : Int32)) ∨ ((11263 : Int32) < cx)) ∧ (((cx < (12272 : Int32)) ∨ ((12288 : Int32) < cx)) ∧ (((cx < (55296 : Int32)) ∨ ((63743 : Int32) < cx)) ∧ (((cx < (64976 : Int32)) ∨ ((65007 : Int32) < cx)) ∧ ((cx < (65534 : Int32)) ∨ ((65535 : Int32) < cx)))))))))))))))) (Q := (((94 : Int32) < cx) ∧ ((¬ (cx = (96 : Int32))) ∧ (((cx < (123 : Int32)) ∨ ((191 : Int32) < cx)) ∧ ((¬ (cx = (215 : Int32))) ∧ ((¬ (cx = (247 : Int32))) ∧ (((cx < (768 : Int32)) ∨ ((879 : Int32) < cx)) ∧ ((¬ (cx = (894 : Int32))) ∧ (((cx < (8192 : Int32)) ∨ ((8203 : Int32) < cx)) ∧ (((cx < (8206 : Int32)) ∨ ((8303 : Int32) < cx)) ∧ (((cx < (8592 : Int32)) ∨ ((11263 : Int32) < cx)) ∧ (((cx < (12272 : Int32)) ∨ ((12288 : Int32) < cx)) ∧ (((cx < (55296 : Int32)) ∨ ((63743 : Int32) < cx)) ∧ (((cx < (64976 : Int32)) ∨ ((65007 : Int32) < cx)) ∧ ((cx < (65534 : Int32)) ∨ ((65535 : Int32) < cx)))))))))))))))) (and_congr (or_iff_right hb6) Iff.rfl)] at k
      show Steps p.tables e below (s₁.setTop (mkF m 36 #[.val (.int cx), .unset] [])) _
      refine XS.iloadN X0.here hx rfl (hb hby d2_36) rfl ?_
      refine XS.bipush X0.here hx rfl (hb hby d2_37) ?_
      exact tl52 fs k
  have tl55 : ∀ fs, (∀ (f : JFrame) (acts : List Action), f.method = m → f.locked = none → f.entered = [] → (doReturn e (s₁.setTop f) acts (some (.int (bz (((64 : Int32) < cx) ∧ (((cx < (91 : Int32)) ∨ ((94 : Int32) < cx)) ∧ ((¬ (cx = (96 : Int32))) ∧ (((cx < (123 : Int32)) ∨ ((191 : Int32) < cx)) ∧ ((¬ (cx = (215 : Int32))) ∧ ((¬ (cx = (247 : Int32))) ∧ (((cx < (768 : Int32)) ∨ ((879 : Int32) < cx)) ∧ ((¬ (cx = (894 : Int32))) ∧ (((cx < (8192 : Int32)) ∨ ((8203 : Int32) < cx)) ∧ (((cx < (8206 : Int32)) ∨ ((8303 : Int32) < cx)) ∧ (((cx < (8592 : Int32)) ∨ ((11263 : Int32) < cx)) ∧ (((cx < (12272 : Int32)) ∨ ((12288 : Int32) < cx)) ∧ (((cx < (55296 : Int32)) ∨ ((63743 : Int32) < cx)) ∧ (((cx < (64976 : Int32)) ∨ ((65007 : Int32) < cx)) ∧ ((cx < (65534 : Int32)) ∨ ((65535 : Int32) < cx)))))))))))))))))))).1 = s₁.setFrames fs) → Steps p.tables e below (s₁.setTop (mkF m 27 #[.val (.int cx), .unset] [(.int (64 : Int32)), (.int cx)])) (s₁.setFrames fs) := fun fs k => by
    by_cases hb54 : (64 : Int32) < cx
    · refine XS.icmpNo X0.here hx rfl (hb hby d2_27) rfl (tlt hb54).2.2.2 ?_
      rw [bz_congr (P := (((64 : Int32) < cx) ∧ (((cx < (91 : Int32)) ∨ ((94 : Int32) < cx)) ∧ ((¬ (cx = (96 : Int32))) ∧ (((cx < (123 : Int32)) ∨ ((191 : Int32) < cx)) ∧ ((¬ (cx = (215 : Int32))) ∧ ((¬ (cx = (247 : Int32))) ∧ (((cx < (768 : Int32)) ∨ ((879 : Int32) < cx)) ∧ ((¬ (cx = (894 : Int32))) ∧ (((cx < (8192 : Int32)) ∨ ((8203 : Int32) < cx)) ∧ (((cx < (8206 : Int32)) ∨ ((8303 : Int32) < cx)) ∧ (((cx < (8592 : Int32)) ∨ ((11263 : Int32) < cx)) ∧ (((cx < (12272 : Int32)) ∨ ((12288 : Int32) < cx)) ∧ (((cx < (55296 : Int32)) ∨ ((63743 : Int32) < cx)) ∧ (((cx < (64976 : Int32)) ∨ ((65007 : Int32) < cx)) ∧ ((cx < (65534 : Int32)) ∨ ((65535 : Int32) < cx))))))))))))))))) (Q := (((cx < (91 : Int32)) ∨ ((94 : Int32) < cx)) ∧ ((¬ (cx = (96 : Int32))) ∧ (((cx < (123 : Int32)) ∨ ((191 : Int32) < cx)) ∧ ((¬ (cx = (215 : Int32))) ∧ ((¬ (cx = (247 : Int32))) ∧ (((cx < (768 : Int32)) ∨ ((879 : Int32) < cx)) ∧ ((¬ (cx = (894 : Int32))) ∧ (((cx < (8192 : Int32)) ∨ ((8203 : Int32) < cx)) ∧ (((cx < (8206 : Int32)) ∨ ((8303 : Int32) < cx)) ∧ (((cx < (8592 : Int32)) ∨ ((11263 : Int32) < cx)) ∧ (((cx < (12272 : Int32)) ∨ ((12288 : Int32) < cx)) ∧ (((cx < (55296 : Int32)) ∨ ((63743 : Int32) < cx)) ∧ (((cx < (64976 : Int32)) ∨ ((65007 : Int32) < cx)) ∧ ((cx < (65534 : Int32)) ∨ ((65535 : Int32) < cx)))))))))))))))) (and_iff_right hb54)] at k
      show Steps p.tables e below (s₁.setTop (mkF m 30 #[.val (.int cx), .unset] [])) _
      refine XS.iloadN X0.here hx rfl (hb hby d2_30) rfl ?_
      refine XS.bipush X0.here hx rfl (hb hby d2_31) ?_
      exact tl53 fs k
    · refine XS.icmpYes X0.here hx rfl (pc0 := 27) (pc' := 188) rfl (hb hby d2_27) rfl (flt hb54).2.2.2 (by decide) (by decide) ?_
      rw [bz_zero (P := (((64 : Int32) < cx) ∧ (((cx < (91 : Int32)) ∨ ((94 : Int32) < cx)) ∧ ((¬ (cx = (96 : Int32))) ∧ (((cx < (123 : Int32)) ∨ ((191 : Int32) < cx)) ∧ ((¬ (cx = (215 : Int32))) ∧ ((¬ (cx = (247 : Int32))) ∧ (((cx < (768 : Int32)) ∨ ((879 : Int32) < cx)) ∧ ((¬ (cx = (894 : Int32))) ∧ (((cx < (8192 : Int32)) ∨ ((8203 : Int32) < cx)) ∧ (((cx < (8206 : Int32)) ∨ ((8303 : Int32) < cx)) ∧ (((cx < (8592 : Int32)) ∨ ((11263 : Int32) < cx)) ∧ (((cx < (12272 : Int32)) ∨ ((12288 : Int32) < cx)) ∧ (((cx < (55296 : Int32)) ∨ ((63743 : Int32) < cx)) ∧ (((cx < (64976 : Int32)) ∨ ((65007 : Int32) < cx)) ∧ ((cx < (65534 : Int32)) ∨ ((65535 : Int32) < cx))))))))))))))))) (iff_false_intro (fun q => hb54 q.1))] at k
      show Steps p.tables e below (s₁.setTop (mkF m 188 #[.val (.int cx), .unset] [])) _
      refine XS.iconst X0.here hx rfl (hb hby d2_188) ?_
      refine XS.goto X0.here hx rfl (pc0 := 189) (pc' := 193) rfl (hb hby d2_189) (by decide) (by decide) ?_
      refine XS.istoreN X0.here hx rfl (hb hby d2_193) rfl (l' := #[.val (.int cx), .val (.int (1 : Int32))]) rfl ?_
      refine XS.iloadN X0.here hx rfl (hb hby d2_194) rfl ?_
      refine XS.ifYes X0.here hx rfl (pc0 := 195) (pc' := 202) rfl (hb hby d2_195) rfl ((if0 _ _).trans (feq (show ¬ ((1 : Int32) = (0 : Int32)) from (by decide))).2) (by decide) (by decide) ?_
      refine XS.iconst X0.here hx rfl (hb hby d2_202) ?_
      exact retN X0 hx (t := .boolean) Bd.returns (by simp) (hb hby d2_203) k
  have tl56 : ∀ fs, (∀ (f : JFrame) (acts : List Action), f.method = m → f.locked = none → f.entered = [] → (doReturn e (s₁.setTop f) acts (some (.int (bz (((cx < (59 : Int32)) ∨ ((64 : Int32) < cx)) ∧ (((cx < (91 : Int32)) ∨ ((94 : Int32) < cx)) ∧ ((¬ (cx = (96 : Int32))) ∧ (((cx < (123 : Int32)) ∨ ((191 : Int32) < cx)) ∧ ((¬ (cx = (215 : Int32))) ∧ ((¬ (cx = (247 : Int32))) ∧ (((cx < (768 : Int32)) ∨ ((879 : Int32) < cx)) ∧ ((¬ (cx = (894 : Int32))) ∧ (((cx < (8192 : Int32)) ∨ ((8203 : Int32) < cx)) ∧ (((cx < (8206 : Int32)) ∨ ((8303 : Int32) < cx)) ∧ (((cx < (8592 : Int32)) ∨ ((11263 : Int32) < cx)) ∧ (((cx < (12272 : Int32)) ∨ ((12288 : Int32) < cx)) ∧ (((cx < (55296 : Int32)) ∨ ((63743 : Int32) < cx)) ∧ (((cx < (64976 : Int32)) ∨ ((65007 : Int32) < cx)) ∧ ((cx < (65534 : Int32)) ∨ ((65535 : Int32) < cx)))))))))))))))))))).1 = s₁.setFrames fs) → Steps p.tables e below (s₁.setTop (mkF m 21 #[.val (.int cx), .unset] [(.int (59 : Int32)), (.int cx)])) (s₁.setFrames fs) := fun fs k => by
    by_cases hb5 : cx < (59 : Int32)
    · refine XS.icmpYes X0.here hx rfl (pc0 := 21) (pc' := 30) rfl (hb hby d2_21) rfl (tlt hb5).1 (by decide) (by decide) ?_
      rw [bz_congr (P := (((cx < (59 : Int32)) ∨ ((64 : Int32) < cx)) ∧ (((cx < (91 : Int32)) ∨ ((94 : Int32) < cx)) ∧ ((¬ (cx = (96 : Int32))) ∧ (((cx < (123 : Int32)) ∨ ((191 : Int32) < cx)) ∧ ((¬ (cx = (215 : Int32))) ∧ ((¬ (cx = (247 : Int32))) ∧ (((cx < (768 : Int32)) ∨ ((879 : Int32) < cx)) ∧ ((¬ (cx = (894 : Int32))) ∧ (((cx < (8192 : Int32)) ∨ ((8203 : Int32) < cx)) ∧ (((cx < (8206 : Int32)) ∨ ((8303 : Int32) < cx)) ∧ (((cx < (8592 : Int32)) ∨ ((11263 : Int32) < cx)) ∧ (((cx < (12272 : Int32)) ∨ ((12288 : Int32) < cx)) ∧ (((cx < (55296 : Int32)) ∨ ((63743 : Int32) < cx)) ∧ (((cx < (64976 : Int32)) ∨ ((65007 : Int32) < cx)) ∧ ((cx < (65534 : Int32)) ∨ ((65535 : Int32) < cx))))))))))))))))) (Q := (((cx < (91 : Int32)) ∨ ((94 : Int32) < cx)) ∧ ((¬ (cx = (96 : Int32))) ∧ (((cx < (123 : Int32)) ∨ ((191 : Int32) < cx)) ∧ ((¬ (cx = (215 : Int32))) ∧ ((¬ (cx = (247 : Int32))) ∧ (((cx < (768 : Int32)) ∨ ((879 : Int32) < cx)) ∧ ((¬ (cx = (894 : Int32))) ∧ (((cx < (8192 : Int32)) ∨ ((8203 : Int32) < cx)) ∧ (((cx < (8206 : Int32)) ∨ ((8303 : Int32) < cx)) ∧ (((cx < (8592 : Int32)) ∨ ((11263 : Int32) < cx)) ∧ (((cx < (12272 : Int32)) ∨ ((12288 : Int32) < cx)) ∧ (((cx < (55296 : Int32)) ∨ ((63743 : Int32) < cx)) ∧ (((cx < (64976 : Int32)) ∨ ((65007 : Int32) < cx)) ∧ ((cx < (65534 : Int32)) ∨ ((65535 : Int32) < cx)))))))))))))))) (and_iff_right (Or.inl hb5))] at k
      show Steps p.tables e below (s₁.setTop (mkF m 30 #[.val (.int cx), .unset] [])) _
      refine XS.iloadN X0.here hx rfl (hb hby d2_30) rfl ?_
      refine XS.bipush X0.here hx rfl (hb hby d2_31) ?_
      exact tl53 fs k
    · refine XS.icmpNo X0.here hx rfl (hb hby d2_21) rfl (flt hb5).1 ?_
      rw [bz_congr (P := (((cx < (59 : Int32)) ∨ ((64 : Int32) < cx)) ∧ (((cx < (91 : Int32)) ∨ ((94 : Int32) < cx)) ∧ ((¬ (cx = (96 : Int32))) ∧ (((cx < (123 : Int32)) ∨ ((191 : Int32) < cx)) ∧ ((¬ (cx = (215 : Int32))) ∧ ((¬ (cx = (247 : Int32))) ∧ (((cx < (768 : Int32)) ∨ ((879 : Int32) < cx)) ∧ ((¬ (cx = (894 : Int32))) ∧ (((cx < (8192 : Int32)) ∨ ((8203 : Int32) < cx)) ∧ (((cx < (8206 : Int32)) ∨ ((8303 : Int32) < cx)) ∧ (((cx < (8592 : Int32)) ∨ ((11263 : Int32) < cx)) ∧ (((cx < (12272 : Int32)) ∨ ((12288 : Int32) < cx)) ∧ (((cx < (55296 : Int32)) ∨ ((63743 : Int32) < cx)) ∧ (((cx < (64976 : Int32)) ∨ ((65007 : Int32) < cx)) ∧ ((cx < (65534 : Int32)) ∨ ((65535 : Int32) < cx))))))))))))))))) (Q := (((64 : Int32) < cx) ∧ (((cx < (91 : Int32)) ∨ ((94 : Int32) < cx)) ∧ ((¬ (cx = (96 : Int32))) ∧ (((cx < (123 : Int32)) ∨ ((191 : Int32) < cx)) ∧ ((¬ (cx = (215 : Int32))) ∧ ((¬ (cx = (247 : Int32))) ∧ (((cx < (768 : Int32)) ∨ ((879 : Int32) < cx)) ∧ ((¬ (cx = (894 : Int32))) ∧ (((cx < (8192 : Int32)) ∨ ((8203 : Int32) < cx)) ∧ (((cx < (8206 : Int32)) ∨ ((8303 : Int32) < cx)) ∧ (((cx < (8592 : Int32)) ∨ ((11263 : Int32) < cx)) ∧ (((cx < (12272 : Int32)) ∨ ((12288 : Int32) < cx)) ∧ (((cx < (55296 : Int32)) ∨ ((63743 : Int32) < cx)) ∧ (((cx < (64976 : Int32)) ∨ ((65007 : Int32) < cx)) ∧ ((cx < (65534 : Int32)) ∨ ((65535 : Int32) < cx))))))))))))))))) (and_congr (or_iff_right hb5) Iff.rfl)] at k
      show Steps p.tables e below (s₁.setTop (mkF m 24 #[.val (.int cx), .unset] [])) _
      refine XS.iloadN X0.here hx rfl (hb hby d2_24) rfl ?_
      refine XS.bipush X0.here hx rfl (hb hby d2_25) ?_
      exact tl55 fs k
  have tl57 : ∀ fs, (∀ (f : JFrame) (acts : List Action), f.method = m → f.locked = none → f.entered = [] → (doReturn e (s₁.setTop f) acts (some (.int (bz (((57 : Int32) < cx) ∧ (((cx < (59 : Int32)) ∨ ((64 : Int32) < cx)) ∧ (((cx < (91 : Int32)) ∨ ((94 : Int32) < cx)) ∧ ((¬ (cx = (96 : Int32))) ∧ (((cx < (123 : Int32)) ∨ ((191 : Int32) < cx)) ∧ ((¬ (cx = (215 : Int32))) ∧ ((¬ (cx = (247 : Int32))) ∧ (((cx < (768 : Int32)) ∨ ((879 : Int32) < cx)) ∧ ((¬ (cx = (894 : Int32))) ∧ (((cx < (8192 : Int32)) ∨ ((8203 : Int32) < cx)) ∧ (((cx < (8206 : Int32)) ∨ ((8303 : Int32) < cx)) ∧ (((cx < (8592 : Int32)) ∨ ((11263 : Int32) < cx)) ∧ (((cx < (12272 : Int32)) ∨ ((12288 : Int32) < cx)) ∧ (((cx < (55296 : Int32)) ∨ ((63743 : Int32) < cx)) ∧ (((cx < (64976 : Int32)) ∨ ((65007 : Int32) < cx)) ∧ ((cx < (65534 : Int32)) ∨ ((65535 : Int32) < cx))))))))))))))))))))).1 = s₁.setFrames fs) → Steps p.tables e below (s₁.setTop (mkF m 15 #[.val (.int cx), .unset] [(.int (57 : Int32)), (.int cx)])) (s₁.setFrames fs) := fun fs k => by
    by_cases hb4 : (57 : Int32) < cx
    · refine XS.icmpNo X0.here hx rfl (hb hby d2_15) rfl (tlt hb4).2.2.2 ?_
      rw [bz_congr (P := (((57 : Int32) < cx) ∧ (((cx < (59 : Int32)) ∨ ((64 : Int32) < cx)) ∧ (((cx < (91 : Int32)) ∨ ((94 : Int32) < cx)) ∧ ((¬ (cx = (96 : Int32))) ∧ (((cx < (123 : Int32)) ∨ ((191 : Int32) < cx)) ∧ ((¬ (cx = (215 : Int32))) ∧ ((¬ (cx = (247 : Int32))) ∧ (((cx < (768 : Int32)) ∨ ((879 : Int32) < cx)) ∧ ((¬ (cx = (894 : Int32))) ∧ (((cx < (8192 : Int32)) ∨ ((8203 : Int32) < cx)) ∧ (((cx < (8206 : Int32)) ∨ ((8303 : Int32) < cx)) ∧ (((cx < (8592 : Int32)) ∨ ((11263 : Int32) < cx)) ∧ (((cx < (12272 : Int32)) ∨ ((12288 : Int32) < cx)) ∧ (((cx < (55296 : Int32)) ∨ ((63743 : Int32) < cx)) ∧ (((cx < (64976 : Int32)) ∨ ((65007 : Int32) < cx)) ∧ ((cx < (65534 : Int32)) ∨ ((65535 : Int32) < cx)))))))))))))))))) (Q := (((cx < (59 : Int32)) ∨ ((64 : Int32) < cx)) ∧ (((cx < (91 : Int32)) ∨ ((94 : Int32) < cx)) ∧ ((¬ (cx = (96 : Int32))) ∧ (((cx < (123 : Int32)) ∨ ((191 : Int32) < cx)) ∧ ((¬ (cx = (215 : Int32))) ∧ ((¬ (cx = (247 : Int32))) ∧ (((cx < (768 : Int32)) ∨ ((879 : Int32) < cx)) ∧ ((¬ (cx = (894 : Int32))) ∧ (((cx < (8192 : Int32)) ∨ ((8203 : Int32) < cx)) ∧ (((cx < (8206 : Int32)) ∨ ((8303 : Int32) < cx)) ∧ (((cx < (8592 : Int32)) ∨ ((11263 : Int32) < cx)) ∧ (((cx < (12272 : Int32)) ∨ ((12288 : Int32) < cx)) ∧ (((cx < (55296 : Int32)) ∨ ((63743 : Int32) < cx)) ∧ (((cx < (64976 : Int32)) ∨ ((65007 : Int32) < cx)) ∧ ((cx < (65534 : Int32)) ∨ ((65535 : Int32) < cx))))))))))))))))) (and_iff_right hb4)] at k
      show Steps p.tables e below (s₁.setTop (mkF m 18 #[.val (.int cx), .unset] [])) _
      refine XS.iloadN X0.here hx rfl (hb hby d2_18) rfl ?_
      refine XS.bipush X0.here hx rfl (hb hby d2_19) ?_
      exact tl56 fs k
    · refine XS.icmpYes X0.here hx rfl (pc0 := 15) (pc' := 188) rfl (hb hby d2_15) rfl (flt hb4).2.2.2 (by decide) (by decide) ?_
      rw [bz_zero (P := (((57 : Int32) < cx) ∧ (((cx < (59 : Int32)) ∨ ((64 : Int32) < cx)) ∧ (((cx < (91 : Int32)) ∨ ((94 : Int32) < cx)) ∧ ((¬ (cx = (96 : Int32))) ∧ (((cx < (123 : Int32)) ∨ ((191 : Int32) < cx)) ∧ ((¬ (cx = (215 : Int32))) ∧ ((¬ (cx = (247 : Int32))) ∧ (((cx < (768 : Int32)) ∨ ((879 : Int32) < cx)) ∧ ((¬ (cx = (894 : Int32))) ∧ (((cx < (8192 : Int32)) ∨ ((8203 : Int32) < cx)) ∧ (((cx < (8206 : Int32)) ∨ ((8303 : Int32) < cx)) ∧ (((cx < (8592 : Int32)) ∨ ((11263 : Int32) < cx)) ∧ (((cx < (12272 : Int32)) ∨ ((12288 : Int32) < cx)) ∧ (((cx < (55296 : Int32)) ∨ ((63743 : Int32) < cx)) ∧ (((cx < (64976 : Int32)) ∨ ((65007 : Int32) < cx)) ∧ ((cx < (65534 : Int32)) ∨ ((65535 : Int32) < cx)))))))))))))))))) (iff_false_intro (fun q => hb4 q.1))] at k
      show Steps p.tables e below (s₁.setTop (mkF m 188 #[.val (.int cx), .unset] [])) _
      refine XS.iconst X0.here hx rfl (hb hby d2_188) ?_
      refine XS.goto X0.here hx rfl (pc0 := 189) (pc' := 193) rfl (hb hby d2_189) (by decide) (by decide) ?_
      refine XS.istoreN X0.here hx rfl (hb hby d2_193) rfl (l' := #[.val (.int cx), .val (.int (1 : Int32))]) rfl ?_
      refine XS.iloadN X0.here hx rfl (hb hby d2_194) rfl ?_
      refine XS.ifYes X0.here hx rfl (pc0 := 195) (pc' := 202) rfl (hb hby d2_195) rfl ((if0 _ _).trans (feq (show ¬ ((1 : Int32) = (0 : Int32)) from (by decide))).2) (by decide) (by decide) ?_
      refine XS.iconst X0.here hx rfl (hb hby d2_202) ?_
      exact retN X0 hx (t := .boolean) Bd.returns (by simp) (hb hby d2_203) k
  have tl58 : ∀ fs, (∀ (f : JFrame) (acts : List Action), f.method = m → f.locked = none → f.entered = [] → (doReturn e (s₁.setTop f) acts (some (.int (bz ((¬ ((983039 : Int32) < cx)) ∧ (((57 : Int32) < cx) ∧ (((cx < (59 : Int32)) ∨ ((64 : Int32) < cx)) ∧ (((cx < (91 : Int32)) ∨ ((94 : Int32) < cx)) ∧ ((¬ (cx = (96 : Int32))) ∧ (((cx < (123 : Int32)) ∨ ((191 : Int32) < cx)) ∧ ((¬ (cx = (215 : Int32))) ∧ ((¬ (cx = (247 : Int32))) ∧ (((cx < (768 : Int32)) ∨ ((879 : Int32) < cx)) ∧ ((¬ (cx = (894 : Int32))) ∧ (((cx < (8192 : Int32)) ∨ ((8203 : Int32) < cx)) ∧ (((cx < (8206 : Int32)) ∨ ((8303 : Int32) < cx)) ∧ (((cx < (8592 : Int32)) ∨ ((11263 : Int32) < cx)) ∧ (((cx < (12272 : Int32)) ∨ ((12288 : Int32) < cx)) ∧ (((cx < (55296 : Int32)) ∨ ((63743 : Int32) < cx)) ∧ (((cx < (64976 : Int32)) ∨ ((65007 : Int32) < cx)) ∧ ((cx < (65534 : Int32)) ∨ ((65535 : Int32) < cx)))))))))))))))))))))).1 = s₁.setFrames fs) → Steps p.tables e below (s₁.setTop (mkF m 7 #[.val (.int cx), .unset] [(.int (983039 : Int32)), (.int cx)])) (s₁.setFrames fs) := fun fs k => by
    by_cases hb3 : (983039 : Int32) < cx
    · refine XS.icmpNo X0.here hx rfl (hb hby d2_7) rfl (tlt hb3).2.2.2 ?_
      rw [bz_zero (P := ((¬ ((983039 : Int32) < cx)) ∧ (((57 : Int32) < cx) ∧ (((cx < (59 : Int32)) ∨ ((64 : Int32) < cx)) ∧ (((cx < (91 : Int32)) ∨ ((94 : Int32) < cx)) ∧ ((¬ (cx = (96 : Int32))) ∧ (((cx < (123 : Int32)) ∨ ((191 : Int32) < cx)) ∧ ((¬ (cx = (215 : Int32))) ∧ ((¬ (cx = (247 : Int32))) ∧ (((cx < (768 : Int32)) ∨ ((879 : Int32) < cx)) ∧ ((¬ (cx = (894 : Int32))) ∧ (((cx < (8192 : Int32)) ∨ ((8203 : Int32) < cx)) ∧ (((cx < (8206 : Int32)) ∨ ((8303 : Int32) < cx)) ∧ (((cx < (8592 : Int32)) ∨ ((11263 : Int32) < cx)) ∧ (((cx < (12272 : Int32)) ∨ ((12288 : Int32) < cx)) ∧ (((cx < (55296 : Int32)) ∨ ((63743 : Int32) < cx)) ∧ (((cx < (64976 : Int32)) ∨ ((65007 : Int32) < cx)) ∧ ((cx < (65534 : Int32)) ∨ ((65535 : Int32) < cx))))))))))))))))))) (iff_false_intro (fun q => q.1 hb3))] at k
      show Steps p.tables e below (s₁.setTop (mkF m 10 #[.val (.int cx), .unset] [])) _
      refine XS.iconst X0.here hx rfl (hb hby d2_10) ?_
      exact retN X0 hx (t := .boolean) Bd.returns (by simp) (hb hby d2_11) k
    · refine XS.icmpYes X0.here hx rfl (pc0 := 7) (pc' := 12) rfl (hb hby d2_7) rfl (flt hb3).2.2.2 (by decide) (by decide) ?_
      rw [bz_congr (P := ((¬ ((983039 : Int32) < cx)) ∧ (((57 : Int32) < cx) ∧ (((cx < (59 : Int32)) ∨ ((64 : Int32) < cx)) ∧ (((cx < (91 : Int32)) ∨ ((94 : Int32) < cx)) ∧ ((¬ (cx = (96 : Int32))) ∧ (((cx < (123 : Int32)) ∨ ((191 : Int32) < cx)) ∧ ((¬ (cx = (215 : Int32))) ∧ ((¬ (cx = (247 : Int32))) ∧ (((cx < (768 : Int32)) ∨ ((879 : Int32) < cx)) ∧ ((¬ (cx = (894 : Int32))) ∧ (((cx < (8192 : Int32)) ∨ ((8203 : Int32) < cx)) ∧ (((cx < (8206 : Int32)) ∨ ((8303 : Int32) < cx)) ∧ (((cx < (8592 : Int32)) ∨ ((11263 : Int32) < cx)) ∧ (((cx < (12272 : Int32)) ∨ ((12288 : Int32) < cx)) ∧ (((cx < (55296 : Int32)) ∨ ((63743 : Int32) < cx)) ∧ (((cx < (64976 : Int32)) ∨ ((65007 : Int32) < cx)) ∧ ((cx < (65534 : Int32)) ∨ ((65535 : Int32) < cx))))))))))))))))))) (Q := (((57 : Int32) < cx) ∧ (((cx < (59 : Int32)) ∨ ((64 : Int32) < cx)) ∧ (((cx < (91 : Int32)) ∨ ((94 : Int32) < cx)) ∧ ((¬ (cx = (96 : Int32))) ∧ (((cx < (123 : Int32)) ∨ ((191 : Int32) < cx)) ∧ ((¬ (cx = (215 : Int32))) ∧ ((¬ (cx = (247 : Int32))) ∧ (((cx < (768 : Int32)) ∨ ((879 : Int32) < cx)) ∧ ((¬ (cx = (894 : Int32))) ∧ (((cx < (8192 : Int32)) ∨ ((8203 : Int32) < cx)) ∧ (((cx < (8206 : Int32)) ∨ ((8303 : Int32) < cx)) ∧ (((cx < (8592 : Int32)) ∨ ((11263 : Int32) < cx)) ∧ (((cx < (12272 : Int32)) ∨ ((12288 : Int32) < cx)) ∧ (((cx < (55296 : Int32)) ∨ ((63743 : Int32) < cx)) ∧ (((cx < (64976 : Int32)) ∨ ((65007 : Int32) < cx)) ∧ ((cx < (65534 : Int32)) ∨ ((65535 : Int32) < cx)))))))))))))))))) (and_iff_right hb3)] at k
      show Steps p.tables e below (s₁.setTop (mkF m 12 #[.val (.int cx), .unset] [])) _
      refine XS.iloadN X0.here hx rfl (hb hby d2_12) rfl ?_
      refine XS.bipush X0.here hx rfl (hb hby d2_13) ?_
      exact tl57 fs k
  have tl59 : ∀ fs, (∀ (f : JFrame) (acts : List Action), f.method = m → f.locked = none → f.entered = [] → (doReturn e (s₁.setTop f) acts (some (.int (bz ((¬ (cx < (0 : Int32))) ∧ ((¬ ((983039 : Int32) < cx)) ∧ (((57 : Int32) < cx) ∧ (((cx < (59 : Int32)) ∨ ((64 : Int32) < cx)) ∧ (((cx < (91 : Int32)) ∨ ((94 : Int32) < cx)) ∧ ((¬ (cx = (96 : Int32))) ∧ (((cx < (123 : Int32)) ∨ ((191 : Int32) < cx)) ∧ ((¬ (cx = (215 : Int32))) ∧ ((¬ (cx = (247 : Int32))) ∧ (((cx < (768 : Int32)) ∨ ((879 : Int32) < cx)) ∧ ((¬ (cx = (894 : Int32))) ∧ (((cx < (8192 : Int32)) ∨ ((8203 : Int32) < cx)) ∧ (((cx < (8206 : Int32)) ∨ ((8303 : Int32) < cx)) ∧ (((cx < (8592 : Int32)) ∨ ((11263 : Int32) < cx)) ∧ (((cx < (12272 : Int32)) ∨ ((12288 : Int32) < cx)) ∧ (((cx < (55296 : Int32)) ∨ ((63743 : Int32) < cx)) ∧ (((cx < (64976 : Int32)) ∨ ((65007 : Int32) < cx)) ∧ ((cx < (65534 : Int32)) ∨ ((65535 : Int32) < cx))))))))))))))))))))))).1 = s₁.setFrames fs) → Steps p.tables e below (s₁.setTop (mkF m 1 #[.val (.int cx), .unset] [(.int cx)])) (s₁.setFrames fs) := fun fs k => by
    by_cases hb2 : cx < (0 : Int32)
    · refine XS.ifYes X0.here hx rfl (pc0 := 1) (pc' := 10) rfl (hb hby d2_1) rfl ((if0 _ _).trans (tlt hb2).1) (by decide) (by decide) ?_
      rw [bz_zero (P := ((¬ (cx < (0 : Int32))) ∧ ((¬ ((983039 : Int32) < cx)) ∧ (((57 : Int32) < cx) ∧ (((cx < (59 : Int32)) ∨ ((64 : Int32) < cx)) ∧ (((cx < (91 : Int32)) ∨ ((94 : Int32) < cx)) ∧ ((¬ (cx = (96 : Int32))) ∧ (((cx < (123 : Int32)) ∨ ((191 : Int32) < cx)) ∧ ((¬ (cx = (215 : Int32))) ∧ ((¬ (cx = (247 : Int32))) ∧ (((cx < (768 : Int32)) ∨ ((879 : Int32) < cx)) ∧ ((¬ (cx = (894 : Int32))) ∧ (((cx < (8192 : Int32)) ∨ ((8203 : Int32) < cx)) ∧ (((cx < (8206 : Int32)) ∨ ((8303 : Int32) < cx)) ∧ (((cx < (8592 : Int32)) ∨ ((11263 : Int32) < cx)) ∧ (((cx < (12272 : Int32)) ∨ ((12288 : Int32) < cx)) ∧ (((cx < (55296 : Int32)) ∨ ((63743 : Int32) < cx)) ∧ (((cx < (64976 : Int32)) ∨ ((65007 : Int32) < cx)) ∧ ((cx < (65534 : Int32)) ∨ ((65535 : Int32) < cx)))))))))))))))))))) (iff_false_intro (fun q => q.1 hb2))] at k
      show Steps p.tables e below (s₁.setTop (mkF m 10 #[.val (.int cx), .unset] [])) _
      refine XS.iconst X0.here hx rfl (hb hby d2_10) ?_
      exact retN X0 hx (t := .boolean) Bd.returns (by simp) (hb hby d2_11) k
    · refine XS.ifNo X0.here hx rfl (hb hby d2_1) rfl ((if0 _ _).trans (flt hb2).1) ?_
      rw [bz_congr (P := ((¬ (cx < (0 : Int32))) ∧ ((¬ ((983039 : Int32) < cx)) ∧ (((57 : Int32) < cx) ∧ (((cx < (59 : Int32)) ∨ ((64 : Int32) < cx)) ∧ (((cx < (91 : Int32)) ∨ ((94 : Int32) < cx)) ∧ ((¬ (cx = (96 : Int32))) ∧ (((cx < (123 : Int32)) ∨ ((191 : Int32) < cx)) ∧ ((¬ (cx = (215 : Int32))) ∧ ((¬ (cx = (247 : Int32))) ∧ (((cx < (768 : Int32)) ∨ ((879 : Int32) < cx)) ∧ ((¬ (cx = (894 : Int32))) ∧ (((cx < (8192 : Int32)) ∨ ((8203 : Int32) < cx)) ∧ (((cx < (8206 : Int32)) ∨ ((8303 : Int32) < cx)) ∧ (((cx < (8592 : Int32)) ∨ ((11263 : Int32) < cx)) ∧ (((cx < (12272 : Int32)) ∨ ((12288 : Int32) < cx)) ∧ (((cx < (55296 : Int32)) ∨ ((63743 : Int32) < cx)) ∧ (((cx < (64976 : Int32)) ∨ ((65007 : Int32) < cx)) ∧ ((cx < (65534 : Int32)) ∨ ((65535 : Int32) < cx)))))))))))))))))))) (Q := ((¬ ((983039 : Int32) < cx)) ∧ (((57 : Int32) < cx) ∧ (((cx < (59 : Int32)) ∨ ((64 : Int32) < cx)) ∧ (((cx < (91 : Int32)) ∨ ((94 : Int32) < cx)) ∧ ((¬ (cx = (96 : Int32))) ∧ (((cx < (123 : Int32)) ∨ ((191 : Int32) < cx)) ∧ ((¬ (cx = (215 : Int32))) ∧ ((¬ (cx = (247 : Int32))) ∧ (((cx < (768 : Int32)) ∨ ((879 : Int32) < cx)) ∧ ((¬ (cx = (894 : Int32))) ∧ (((cx < (8192 : Int32)) ∨ ((8203 : Int32) < cx)) ∧ (((cx < (8206 : Int32)) ∨ ((8303 : Int32) < cx)) ∧ (((cx < (8592 : Int32)) ∨ ((11263 : Int32) < cx)) ∧ (((cx < (12272 : Int32)) ∨ ((12288 : Int32) < cx)) ∧ (((cx < (55296 : Int32)) ∨ ((63743 : Int32) < cx)) ∧ (((cx < (64976 : Int32)) ∨ ((65007 : Int32) < cx)) ∧ ((cx < (65534 : Int32)) ∨ ((65535 : Int32) < cx))))))))))))))))))) (and_iff_right hb2)] at k
      show Steps p.tables e below (s₁.setTop (mkF m 4 #[.val (.int cx), .unset] [])) _
      refine XS.iloadN X0.here hx rfl (hb hby d2_4) rfl ?_
      refine X0.ldcInt hx hown (mvT hZ (hw _ (List.mem_of_getElem? (i := 13) rfl))) (g := (mkF m 5 #[.val (.int cx), .unset] [(.int cx)])) rfl (hb hby d2_5) _ ?_
      exact tl58 fs k
  obtain ⟨fs, hr, hrun, hended, hW, hsame⟩ := X0.leave (v := some (.int (bz ((¬ (cx < (0 : Int32))) ∧ ((¬ ((983039 : Int32) < cx)) ∧ (((57 : Int32) < cx) ∧ (((cx < (59 : Int32)) ∨ ((64 : Int32) < cx)) ∧ (((cx < (91 : Int32)) ∨ ((94 : Int32) < cx)) ∧ ((¬ (cx = (96 : Int32))) ∧ (((cx < (123 : Int32)) ∨ ((191 : Int32) < cx)) ∧ ((¬ (cx = (215 : Int32))) ∧ ((¬ (cx = (247 : Int32))) ∧ (((cx < (768 : Int32)) ∨ ((879 : Int32) < cx)) ∧ ((¬ (cx = (894 : Int32))) ∧ (((cx < (8192 : Int32)) ∨ ((8203 : Int32) < cx)) ∧ (((cx < (8206 : Int32)) ∨ ((8303 : Int32) < cx)) ∧ (((cx < (8592 : Int32)) ∨ ((11263 : Int32) < cx)) ∧ (((cx < (12272 : Int32)) ∨ ((12288 : Int32) < cx)) ∧ (((cx < (55296 : Int32)) ∨ ((63743 : Int32) < cx)) ∧ (((cx < (64976 : Int32)) ∨ ((65007 : Int32) < cx)) ∧ ((cx < (65534 : Int32)) ∨ ((65535 : Int32) < cx)))))))))))))))))))))) (fun h => by rw [Bd.returns] at h; cases h)
  refine ⟨_, _, pre1 _ ?_, hrun, hended, _, _, rfl, ?_, ⟨_, rfl⟩, hW, hsame.mono (by decide) (by decide)⟩
  · skip
    exact tl59 fs hr
  · show Q2 Z cx n0 Rst _ s₁.heap _
    rw [e0]
    exact ⟨(by first | rfl | simp only [F2]), N0, R0⟩
theorem own_eq (c : Int32) : F1 c = F2 c := by
  unfold F1 F2
  apply bz_congr
  simp only [lt32, ← Int32.toInt_inj, Int32.reduceToInt]
  split <;> omega
theorem own_ix (x : Int32) : ¬ ((x &&& (2147483647 : Int32)) % (65 : Int32)) < 0 ∧ ((x &&& (2147483647 : Int32)) % (65 : Int32)).toNatClampNeg < 65 := by
  obtain ⟨n, h, e⟩ := remN x (65 : Int32) 65 rfl (by decide) (by decide)
  rw [e, lt32, Int32.toNatClampNeg, Int32.toInt_ofNat_of_lt (by omega), show (0 : Int32).toInt = 0 from rfl]
  omega
theorem own_get (ws : List Int32) (k : Nat) (h : k < ws.length) : ∃ w, (ws.map Value.int)[k]? = some (.int w) := ⟨ws[k], by simp [h]⟩
theorem pd__28I_29Z : parseMethodDescriptor "(I)Z" = some ⟨[.int], some .boolean⟩ := by decide +kernel
theorem ef_0 (m : MethodId) (x0 : Int32) (x1 : Int32) (x2 : Int32) (x3 : Int32) : entryFrame m #[(.int x0), (.int x1), (.int x2), (.int x3)] maxLocals = mkF m 0 #[.val (.int x0), .val (.int x1), .val (.int x2), .val (.int x3), .unset, .unset] [] := by first | (simp [entryFrame, mkF, argsToLocals, Value.category, maxLocals]; done) | rfl
def Q0 (Z : State) (px : Int32) (qx : Int32) (ox : Int32) (dx : Int32) (n0 : Nat) (Rst : RL) (v : Option Value) (h : Heap) (L : List Loc) : Prop := v = some (.int (1 : Int32)) ∧ Fr n0 L ∧ Rep Z n0 h (Rst)
set_option maxRecDepth 65536 in
set_option maxHeartbeats 40000000 in
theorem rm0 (l : Launch) (Z : State) (a0 : Array Value) (hw : ∀ d ∈ tables_1, d.before a0 Z = true) (ws : List Jvm.Cond) (px : Int32) (qx : Int32) (ox : Int32) (dx : Int32) (h0 : Heap) (n0 : Nat) (R0 : Rep Z n0 h0 ([])) :
    MetFree l x (head1 (Jvm.Cond.code x code maxLocals ret :: ws) room_1) (fun a U => a = #[(.int px), (.int qx), (.int ox), (.int dx)] ∧ Z.Warmed39 U.vm ∧ U.heap = h0) (fun _ _ _ _ _ => True) (fun _ U o U' => ∃ v L, o = .returned v ∧ Q0 Z px qx ox dx n0 [] v U'.heap L ∧ FrameEnd U o U' L 16 256) := by
  refine MetFree.of_bodySF (plainFor_of_name pn_com_example_taggen_taggen_XmlCharsIsNameStartCharPinLaw) hisR ?_
  intro p e s m args below meth c s₁ Bd hml0 hP hK
  obtain ⟨rfl, hZ, hh⟩ := hP
  have hx := Bd.exec
  have hby := Bd.bytes
  have hml : c.maxLocals = 6 := hml0
  have hown : s.vm.findClass "com/example/taggen/taggen/XmlCharsIsNameStartCharPinLaw" = some m.cls := findClass_of_methodNamed Bd.named
  have hnm := (name_of_methodNamed Bd.named Bd.method).1
  have X0 : Stand p l e room_1 s m #[(.int px), (.int qx), (.int ox), (.int dx)] below meth c s₁ [] 0 0 := Stand.of_body Bd
  have e0 : s₁.heap = h0 := by rw [← hh, Bd.state]; rfl
  have N0 := Fr.nil n0
  have pre0 : ∀ t, Steps p.tables e below (s₁.setTop (mkF m 0 #[.val (.int px), .val (.int qx), .val (.int ox), .val (.int dx), .unset, .unset] [])) t → Steps p.tables e below (s₁.setTop (entryFrame m #[(.int px), (.int qx), (.int ox), (.int dx)] maxLocals)) t := fun t k => castTop (ef_0 m px qx ox dx) k
  have pre1 : ∀ t, Steps p.tables e below (s₁.setTop (mkF m 2 #[.val (.int px), .val (.int qx), .val (.int ox), .val (.int dx), .unset, .unset] [(.int (65 : Int32))])) t → Steps p.tables e below (s₁.setTop (entryFrame m #[(.int px), (.int qx), (.int ox), (.int dx)] maxLocals)) t := fun t k => pre0 t (by
    show Steps p.tables e below (s₁.setTop (mkF m 0 #[.val (.int px), .val (.int qx), .val (.int ox), .val (.int dx), .unset, .unset] [])) _
    refine XS.bipush X0.here hx rfl (hb hby at_0) ?_
    exact k)
  obtain ⟨T2, h2, b2, X2, e2, R2, st2⟩ := gNewP X0 hx hZ (hw _ (List.mem_of_getElem? (i := 0) rfl)) e0 R0 (g := (mkF m 2 #[.val (.int px), .val (.int qx), .val (.int ox), .val (.int dx), .unset, .unset] [(.int (65 : Int32))])) rfl (hb hby at_2) rfl (by decide) 65 (by decide) (by decide) (by decide) (by decide) (vs := [(.int (0 : Int32)), (.int (0 : Int32)), (.int (0 : Int32)), (.int (0 : Int32)), (.int (0 : Int32)), (.int (0 : Int32)), (.int (0 : Int32)), (.int (0 : Int32)), (.int (0 : Int32)), (.int (0 : Int32)), (.int (0 : Int32)), (.int (0 : Int32)), (.int (0 : Int32)), (.int (0 : Int32)), (.int (0 : Int32)), (.int (0 : Int32)), (.int (0 : Int32)), (.int (0 : Int32)), (.int (0 : Int32)), (.int (0 : Int32)), (.int (0 : Int32)), (.int (0 : Int32)), (.int (0 : Int32)), (.int (0 : Int32)), (.int (0 : Int32)), (.int (0 : Int32)), (.int (0 : Int32)), (.int (0 : Int32)), (.int (0 : Int32)), (.int (0 : Int32)), (.int (0 : Int32)), (.int (0 : Int32)), (.int (0 : Int32)), (.int (0 : Int32)), (.int (0 : Int32)), (.int (0 : Int32)), (.int (0 : Int32)), (.int (0 : Int32)), (.int (0 : Int32)), (.int (0 : Int32)), (.int (0 : Int32)), (.int (0 : Int32)), (.int (0 : Int32)), (.int (0 : Int32)), (.int (0 : Int32)), (.int (0 : Int32)), (.int (0 : Int32)), (.int (0 : Int32)), (.int (0 : Int32)), (.int (0 : Int32)), (.int (0 : Int32)), (.int (0 : Int32)), (.int (0 : Int32)), (.int (0 : Int32)), (.int (0 : Int32)), (.int (0 : Int32)), (.int (0 : Int32)), (.int (0 : Int32)), (.int (0 : Int32)), (.int (0 : Int32)), (.int (0 : Int32)), (.int (0 : Int32)), (.int (0 : Int32)), (.int (0 : Int32)), (.int (0 : Int32))]) rfl
  replace R2 : Rep Z n0 h2 ((b2, Ar .int [(.int (0 : Int32)), (.int (0 : Int32)), (.int (0 : Int32)), (.int (0 : Int32)), (.int (0 : Int32)), (.int (0 : Int32)), (.int (0 : Int32)), (.int (0 : Int32)), (.int (0 : Int32)), (.int (0 : Int32)), (.int (0 : Int32)), (.int (0 : Int32)), (.int (0 : Int32)), (.int (0 : Int32)), (.int (0 : Int32)), (.int (0 : Int32)), (.int (0 : Int32)), (.int (0 : Int32)), (.int (0 : Int32)), (.int (0 : Int32)), (.int (0 : Int32)), (.int (0 : Int32)), (.int (0 : Int32)), (.int (0 : Int32)), (.int (0 : Int32)), (.int (0 : Int32)), (.int (0 : Int32)), (.int (0 : Int32)), (.int (0 : Int32)), (.int (0 : Int32)), (.int (0 : Int32)), (.int (0 : Int32)), (.int (0 : Int32)), (.int (0 : Int32)), (.int (0 : Int32)), (.int (0 : Int32)), (.int (0 : Int32)), (.int (0 : Int32)), (.int (0 : Int32)), (.int (0 : Int32)), (.int (0 : Int32)), (.int (0 : Int32)), (.int (0 : Int32)), (.int (0 : Int32)), (.int (0 : Int32)), (.int (0 : Int32)), (.int (0 : Int32)), (.int (0 : Int32)), (.int (0 : Int32)), (.int (0 : Int32)), (.int (0 : Int32)), (.int (0 : Int32)), (.int (0 : Int32)), (.int (0 : Int32)), (.int (0 : Int32)), (.int (0 : Int32)), (.int (0 : Int32)), (.int (0 : Int32)), (.int (0 : Int32)), (.int (0 : Int32)), (.int (0 : Int32)), (.int (0 : Int32)), (.int (0 : Int32)), (.int (0 : Int32)), (.int (0 : Int32))]) :: []) := R2
  have pre3 : ∀ t, Steps p.tables e below (T2.setTop (mkF m 4 #[.val (.int px), .val (.int qx), .val (.int ox), .val (.int dx), .unset, .unset] [(.ref b2)])) t → Steps p.tables e below (s₁.setTop (entryFrame m #[(.int px), (.int qx), (.int ox), (.int dx)] maxLocals)) t := fun t k => pre1 t (st2 t k)
  have pre4 : ∀ t, Steps p.tables e below (T2.setTop (mkF m 7 #[.val (.int px), .val (.int qx), .val (.int ox), .val (.int dx), .unset, .unset] [(.int (0 : Int32)), (.int (0 : Int32)), (.ref b2), (.ref b2)])) t → Steps p.tables e below (s₁.setTop (entryFrame m #[(.int px), (.int qx), (.int ox), (.int dx)] maxLocals)) t := fun t k => pre3 t (by
    show Steps p.tables e below (T2.setTop (mkF m 4 #[.val (.int px), .val (.int qx), .val (.int ox), .val (.int dx), .unset, .unset] [(.ref b2)])) _
    refine XS.dup X2.here hx rfl (hb hby at_4) rfl rfl ?_
    refine XS.iconst X2.here hx rfl (hb hby at_5) ?_
    refine XS.iconst X2.here hx rfl (hb hby at_6) ?_
    exact k)
  obtain ⟨T5, h5, ls5, X5, e5, N5, R5, st5⟩ := gIst X2 hx hZ e2 N0 R2 0 rfl (j := (0 : Int32)) (by decide) (0) rfl (by decide) (g := (mkF m 7 #[.val (.int px), .val (.int qx), .val (.int ox), .val (.int dx), .unset, .unset] [(.int (0 : Int32)), (.int (0 : Int32)), (.ref b2), (.ref b2)])) rfl rfl (hb hby at_7)
  replace R5 : Rep Z n0 h5 ((b2, Ar .int [(.int (0 : Int32)), (.int (0 : Int32)), (.int (0 : Int32)), (.int (0 : Int32)), (.int (0 : Int32)), (.int (0 : Int32)), (.int (0 : Int32)), (.int (0 : Int32)), (.int (0 : Int32)), (.int (0 : Int32)), (.int (0 : Int32)), (.int (0 : Int32)), (.int (0 : Int32)), (.int (0 : Int32)), (.int (0 : Int32)), (.int (0 : Int32)), (.int (0 : Int32)), (.int (0 : Int32)), (.int (0 : Int32)), (.int (0 : Int32)), (.int (0 : Int32)), (.int (0 : Int32)), (.int (0 : Int32)), (.int (0 : Int32)), (.int (0 : Int32)), (.int (0 : Int32)), (.int (0 : Int32)), (.int (0 : Int32)), (.int (0 : Int32)), (.int (0 : Int32)), (.int (0 : Int32)), (.int (0 : Int32)), (.int (0 : Int32)), (.int (0 : Int32)), (.int (0 : Int32)), (.int (0 : Int32)), (.int (0 : Int32)), (.int (0 : Int32)), (.int (0 : Int32)), (.int (0 : Int32)), (.int (0 : Int32)), (.int (0 : Int32)), (.int (0 : Int32)), (.int (0 : Int32)), (.int (0 : Int32)), (.int (0 : Int32)), (.int (0 : Int32)), (.int (0 : Int32)), (.int (0 : Int32)), (.int (0 : Int32)), (.int (0 : Int32)), (.int (0 : Int32)), (.int (0 : Int32)), (.int (0 : Int32)), (.int (0 : Int32)), (.int (0 : Int32)), (.int (0 : Int32)), (.int (0 : Int32)), (.int (0 : Int32)), (.int (0 : Int32)), (.int (0 : Int32)), (.int (0 : Int32)), (.int (0 : Int32)), (.int (0 : Int32)), (.int (0 : Int32))]) :: []) := R5
  have pre6 : ∀ t, Steps p.tables e below (T5.setTop (mkF m 8 #[.val (.int px), .val (.int qx), .val (.int ox), .val (.int dx), .unset, .unset] [(.ref b2)])) t → Steps p.tables e below (s₁.setTop (entryFrame m #[(.int px), (.int qx), (.int ox), (.int dx)] maxLocals)) t := fun t k => pre4 t (st5 t k)
  have pre7 : ∀ t, Steps p.tables e below (T5.setTop (mkF m 12 #[.val (.int px), .val (.int qx), .val (.int ox), .val (.int dx), .unset, .unset] [(.int (57 : Int32)), (.int (1 : Int32)), (.ref b2), (.ref b2)])) t → Steps p.tables e below (s₁.setTop (entryFrame m #[(.int px), (.int qx), (.int ox), (.int dx)] maxLocals)) t := fun t k => pre6 t (by
    show Steps p.tables e below (T5.setTop (mkF m 8 #[.val (.int px), .val (.int qx), .val (.int ox), .val (.int dx), .unset, .unset] [(.ref b2)])) _
    refine XS.dup X5.here hx rfl (hb hby at_8) rfl rfl ?_
    refine XS.iconst X5.here hx rfl (hb hby at_9) ?_
    refine XS.bipush X5.here hx rfl (hb hby at_10) ?_
    exact k)
  obtain ⟨T8, h8, ls8, X8, e8, N8, R8, st8⟩ := gIst X5 hx hZ e5 N5 R5 0 rfl (j := (1 : Int32)) (by decide) (1) rfl (by decide) (g := (mkF m 12 #[.val (.int px), .val (.int qx), .val (.int ox), .val (.int dx), .unset, .unset] [(.int (57 : Int32)), (.int (1 : Int32)), (.ref b2), (.ref b2)])) rfl rfl (hb hby at_12)
  replace R8 : Rep Z n0 h8 ((b2, Ar .int [(.int (0 : Int32)), (.int (57 : Int32)), (.int (0 : Int32)), (.int (0 : Int32)), (.int (0 : Int32)), (.int (0 : Int32)), (.int (0 : Int32)), (.int (0 : Int32)), (.int (0 : Int32)), (.int (0 : Int32)), (.int (0 : Int32)), (.int (0 : Int32)), (.int (0 : Int32)), (.int (0 : Int32)), (.int (0 : Int32)), (.int (0 : Int32)), (.int (0 : Int32)), (.int (0 : Int32)), (.int (0 : Int32)), (.int (0 : Int32)), (.int (0 : Int32)), (.int (0 : Int32)), (.int (0 : Int32)), (.int (0 : Int32)), (.int (0 : Int32)), (.int (0 : Int32)), (.int (0 : Int32)), (.int (0 : Int32)), (.int (0 : Int32)), (.int (0 : Int32)), (.int (0 : Int32)), (.int (0 : Int32)), (.int (0 : Int32)), (.int (0 : Int32)), (.int (0 : Int32)), (.int (0 : Int32)), (.int (0 : Int32)), (.int (0 : Int32)), (.int (0 : Int32)), (.int (0 : Int32)), (.int (0 : Int32)), (.int (0 : Int32)), (.int (0 : Int32)), (.int (0 : Int32)), (.int (0 : Int32)), (.int (0 : Int32)), (.int (0 : Int32)), (.int (0 : Int32)), (.int (0 : Int32)), (.int (0 : Int32)), (.int (0 : Int32)), (.int (0 : Int32)), (.int (0 : Int32)), (.int (0 : Int32)), (.int (0 : Int32)), (.int (0 : Int32)), (.int (0 : Int32)), (.int (0 : Int32)), (.int (0 : Int32)), (.int (0 : Int32)), (.int (0 : Int32)), (.int (0 : Int32)), (.int (0 : Int32)), (.int (0 : Int32)), (.int (0 : Int32))]) :: []) := R8
  have pre9 : ∀ t, Steps p.tables e below (T8.setTop (mkF m 13 #[.val (.int px), .val (.int qx), .val (.int ox), .val (.int dx), .unset, .unset] [(.ref b2)])) t → Steps p.tables e below (s₁.setTop (entryFrame m #[(.int px), (.int qx), (.int ox), (.int dx)] maxLocals)) t := fun t k => pre7 t (st8 t k)
  have pre10 : ∀ t, Steps p.tables e below (T8.setTop (mkF m 17 #[.val (.int px), .val (.int qx), .val (.int ox), .val (.int dx), .unset, .unset] [(.int (58 : Int32)), (.int (2 : Int32)), (.ref b2), (.ref b2)])) t → Steps p.tables e below (s₁.setTop (entryFrame m #[(.int px), (.int qx), (.int ox), (.int dx)] maxLocals)) t := fun t k => pre9 t (by
    show Steps p.tables e below (T8.setTop (mkF m 13 #[.val (.int px), .val (.int qx), .val (.int ox), .val (.int dx), .unset, .unset] [(.ref b2)])) _
    refine XS.dup X8.here hx rfl (hb hby at_13) rfl rfl ?_
    refine XS.iconst X8.here hx rfl (hb hby at_14) ?_
    refine XS.bipush X8.here hx rfl (hb hby at_15) ?_
    exact k)
  obtain ⟨T11, h11, ls11, X11, e11, N11, R11, st11⟩ := gIst X8 hx hZ e8 N8 R8 0 rfl (j := (2 : Int32)) (by decide) (2) rfl (by decide) (g := (mkF m 17 #[.val (.int px), .val (.int qx), .val (.int ox), .val (.int dx), .unset, .unset] [(.int (58 : Int32)), (.int (2 : Int32)), (.ref b2), (.ref b2)])) rfl rfl (hb hby at_17)
  replace R11 : Rep Z n0 h11 ((b2, Ar .int [(.int (0 : Int32)), (.int (57 : Int32)), (.int (58 : Int32)), (.int (0 : Int32)), (.int (0 : Int32)), (.int (0 : Int32)), (.int (0 : Int32)), (.int (0 : Int32)), (.int (0 : Int32)), (.int (0 : Int32)), (.int (0 : Int32)), (.int (0 : Int32)), (.int (0 : Int32)), (.int (0 : Int32)), (.int (0 : Int32)), (.int (0 : Int32)), (.int (0 : Int32)), (.int (0 : Int32)), (.int (0 : Int32)), (.int (0 : Int32)), (.int (0 : Int32)), (.int (0 : Int32)), (.int (0 : Int32)), (.int (0 : Int32)), (.int (0 : Int32)), (.int (0 : Int32)), (.int (0 : Int32)), (.int (0 : Int32)), (.int (0 : Int32)), (.int (0 : Int32)), (.int (0 : Int32)), (.int (0 : Int32)), (.int (0 : Int32)), (.int (0 : Int32)), (.int (0 : Int32)), (.int (0 : Int32)), (.int (0 : Int32)), (.int (0 : Int32)), (.int (0 : Int32)), (.int (0 : Int32)), (.int (0 : Int32)), (.int (0 : Int32)), (.int (0 : Int32)), (.int (0 : Int32)), (.int (0 : Int32)), (.int (0 : Int32)), (.int (0 : Int32)), (.int (0 : Int32)), (.int (0 : Int32)), (.int (0 : Int32)), (.int (0 : Int32)), (.int (0 : Int32)), (.int (0 : Int32)), (.int (0 : Int32)), (.int (0 : Int32)), (.int (0 : Int32)), (.int (0 : Int32)), (.int (0 : Int32)), (.int (0 : Int32)), (.int (0 : Int32)), (.int (0 : Int32)), (.int (0 : Int32)), (.int (0 : Int32)), (.int (0 : Int32)), (.int (0 : Int32))]) :: []) := R11
  have pre12 : ∀ t, Steps p.tables e below (T11.setTop (mkF m 18 #[.val (.int px), .val (.int qx), .val (.int ox), .val (.int dx), .unset, .unset] [(.ref b2)])) t → Steps p.tables e below (s₁.setTop (entryFrame m #[(.int px), (.int qx), (.int ox), (.int dx)] maxLocals)) t := fun t k => pre10 t (st11 t k)
  have pre13 : ∀ t, Steps p.tables e below (T11.setTop (mkF m 22 #[.val (.int px), .val (.int qx), .val (.int ox), .val (.int dx), .unset, .unset] [(.int (59 : Int32)), (.int (3 : Int32)), (.ref b2), (.ref b2)])) t → Steps p.tables e below (s₁.setTop (entryFrame m #[(.int px), (.int qx), (.int ox), (.int dx)] maxLocals)) t := fun t k => pre12 t (by
    show Steps p.tables e below (T11.setTop (mkF m 18 #[.val (.int px), .val (.int qx), .val (.int ox), .val (.int dx), .unset, .unset] [(.ref b2)])) _
    refine XS.dup X11.here hx rfl (hb hby at_18) rfl rfl ?_
    refine XS.iconst X11.here hx rfl (hb hby at_19) ?_
    refine XS.bipush X11.here hx rfl (hb hby at_20) ?_
    exact k)
  obtain ⟨T14, h14, ls14, X14, e14, N14, R14, st14⟩ := gIst X11 hx hZ e11 N11 R11 0 rfl (j := (3 : Int32)) (by decide) (3) rfl (by decide) (g := (mkF m 22 #[.val (.int px), .val (.int qx), .val (.int ox), .val (.int dx), .unset, .unset] [(.int (59 : Int32)), (.int (3 : Int32)), (.ref b2), (.ref b2)])) rfl rfl (hb hby at_22)
  replace R14 : Rep Z n0 h14 ((b2, Ar .int [(.int (0 : Int32)), (.int (57 : Int32)), (.int (58 : Int32)), (.int (59 : Int32)), (.int (0 : Int32)), (.int (0 : Int32)), (.int (0 : Int32)), (.int (0 : Int32)), (.int (0 : Int32)), (.int (0 : Int32)), (.int (0 : Int32)), (.int (0 : Int32)), (.int (0 : Int32)), (.int (0 : Int32)), (.int (0 : Int32)), (.int (0 : Int32)), (.int (0 : Int32)), (.int (0 : Int32)), (.int (0 : Int32)), (.int (0 : Int32)), (.int (0 : Int32)), (.int (0 : Int32)), (.int (0 : Int32)), (.int (0 : Int32)), (.int (0 : Int32)), (.int (0 : Int32)), (.int (0 : Int32)), (.int (0 : Int32)), (.int (0 : Int32)), (.int (0 : Int32)), (.int (0 : Int32)), (.int (0 : Int32)), (.int (0 : Int32)), (.int (0 : Int32)), (.int (0 : Int32)), (.int (0 : Int32)), (.int (0 : Int32)), (.int (0 : Int32)), (.int (0 : Int32)), (.int (0 : Int32)), (.int (0 : Int32)), (.int (0 : Int32)), (.int (0 : Int32)), (.int (0 : Int32)), (.int (0 : Int32)), (.int (0 : Int32)), (.int (0 : Int32)), (.int (0 : Int32)), (.int (0 : Int32)), (.int (0 : Int32)), (.int (0 : Int32)), (.int (0 : Int32)), (.int (0 : Int32)), (.int (0 : Int32)), (.int (0 : Int32)), (.int (0 : Int32)), (.int (0 : Int32)), (.int (0 : Int32)), (.int (0 : Int32)), (.int (0 : Int32)), (.int (0 : Int32)), (.int (0 : Int32)), (.int (0 : Int32)), (.int (0 : Int32)), (.int (0 : Int32))]) :: []) := R14
  have pre15 : ∀ t, Steps p.tables e below (T14.setTop (mkF m 23 #[.val (.int px), .val (.int qx), .val (.int ox), .val (.int dx), .unset, .unset] [(.ref b2)])) t → Steps p.tables e below (s₁.setTop (entryFrame m #[(.int px), (.int qx), (.int ox), (.int dx)] maxLocals)) t := fun t k => pre13 t (st14 t k)
  have pre16 : ∀ t, Steps p.tables e below (T14.setTop (mkF m 27 #[.val (.int px), .val (.int qx), .val (.int ox), .val (.int dx), .unset, .unset] [(.int (64 : Int32)), (.int (4 : Int32)), (.ref b2), (.ref b2)])) t → Steps p.tables e below (s₁.setTop (entryFrame m #[(.int px), (.int qx), (.int ox), (.int dx)] maxLocals)) t := fun t k => pre15 t (by
    show Steps p.tables e below (T14.setTop (mkF m 23 #[.val (.int px), .val (.int qx), .val (.int ox), .val (.int dx), .unset, .unset] [(.ref b2)])) _
    refine XS.dup X14.here hx rfl (hb hby at_23) rfl rfl ?_
    refine XS.iconst X14.here hx rfl (hb hby at_24) ?_
    refine XS.bipush X14.here hx rfl (hb hby at_25) ?_
    exact k)
  obtain ⟨T17, h17, ls17, X17, e17, N17, R17, st17⟩ := gIst X14 hx hZ e14 N14 R14 0 rfl (j := (4 : Int32)) (by decide) (4) rfl (by decide) (g := (mkF m 27 #[.val (.int px), .val (.int qx), .val (.int ox), .val (.int dx), .unset, .unset] [(.int (64 : Int32)), (.int (4 : Int32)), (.ref b2), (.ref b2)])) rfl rfl (hb hby at_27)
  replace R17 : Rep Z n0 h17 ((b2, Ar .int [(.int (0 : Int32)), (.int (57 : Int32)), (.int (58 : Int32)), (.int (59 : Int32)), (.int (64 : Int32)), (.int (0 : Int32)), (.int (0 : Int32)), (.int (0 : Int32)), (.int (0 : Int32)), (.int (0 : Int32)), (.int (0 : Int32)), (.int (0 : Int32)), (.int (0 : Int32)), (.int (0 : Int32)), (.int (0 : Int32)), (.int (0 : Int32)), (.int (0 : Int32)), (.int (0 : Int32)), (.int (0 : Int32)), (.int (0 : Int32)), (.int (0 : Int32)), (.int (0 : Int32)), (.int (0 : Int32)), (.int (0 : Int32)), (.int (0 : Int32)), (.int (0 : Int32)), (.int (0 : Int32)), (.int (0 : Int32)), (.int (0 : Int32)), (.int (0 : Int32)), (.int (0 : Int32)), (.int (0 : Int32)), (.int (0 : Int32)), (.int (0 : Int32)), (.int (0 : Int32)), (.int (0 : Int32)), (.int (0 : Int32)), (.int (0 : Int32)), (.int (0 : Int32)), (.int (0 : Int32)), (.int (0 : Int32)), (.int (0 : Int32)), (.int (0 : Int32)), (.int (0 : Int32)), (.int (0 : Int32)), (.int (0 : Int32)), (.int (0 : Int32)), (.int (0 : Int32)), (.int (0 : Int32)), (.int (0 : Int32)), (.int (0 : Int32)), (.int (0 : Int32)), (.int (0 : Int32)), (.int (0 : Int32)), (.int (0 : Int32)), (.int (0 : Int32)), (.int (0 : Int32)), (.int (0 : Int32)), (.int (0 : Int32)), (.int (0 : Int32)), (.int (0 : Int32)), (.int (0 : Int32)), (.int (0 : Int32)), (.int (0 : Int32)), (.int (0 : Int32))]) :: []) := R17
  have pre18 : ∀ t, Steps p.tables e below (T17.setTop (mkF m 28 #[.val (.int px), .val (.int qx), .val (.int ox), .val (.int dx), .unset, .unset] [(.ref b2)])) t → Steps p.tables e below (s₁.setTop (entryFrame m #[(.int px), (.int qx), (.int ox), (.int dx)] maxLocals)) t := fun t k => pre16 t (st17 t k)
  have pre19 : ∀ t, Steps p.tables e below (T17.setTop (mkF m 32 #[.val (.int px), .val (.int qx), .val (.int ox), .val (.int dx), .unset, .unset] [(.int (65 : Int32)), (.int (5 : Int32)), (.ref b2), (.ref b2)])) t → Steps p.tables e below (s₁.setTop (entryFrame m #[(.int px), (.int qx), (.int ox), (.int dx)] maxLocals)) t := fun t k => pre18 t (by
    show Steps p.tables e below (T17.setTop (mkF m 28 #[.val (.int px), .val (.int qx), .val (.int ox), .val (.int dx), .unset, .unset] [(.ref b2)])) _
    refine XS.dup X17.here hx rfl (hb hby at_28) rfl rfl ?_
    refine XS.iconst X17.here hx rfl (hb hby at_29) ?_
    refine XS.bipush X17.here hx rfl (hb hby at_30) ?_
    exact k)
  obtain ⟨T20, h20, ls20, X20, e20, N20, R20, st20⟩ := gIst X17 hx hZ e17 N17 R17 0 rfl (j := (5 : Int32)) (by decide) (5) rfl (by decide) (g := (mkF m 32 #[.val (.int px), .val (.int qx), .val (.int ox), .val (.int dx), .unset, .unset] [(.int (65 : Int32)), (.int (5 : Int32)), (.ref b2), (.ref b2)])) rfl rfl (hb hby at_32)
  replace R20 : Rep Z n0 h20 ((b2, Ar .int [(.int (0 : Int32)), (.int (57 : Int32)), (.int (58 : Int32)), (.int (59 : Int32)), (.int (64 : Int32)), (.int (65 : Int32)), (.int (0 : Int32)), (.int (0 : Int32)), (.int (0 : Int32)), (.int (0 : Int32)), (.int (0 : Int32)), (.int (0 : Int32)), (.int (0 : Int32)), (.int (0 : Int32)), (.int (0 : Int32)), (.int (0 : Int32)), (.int (0 : Int32)), (.int (0 : Int32)), (.int (0 : Int32)), (.int (0 : Int32)), (.int (0 : Int32)), (.int (0 : Int32)), (.int (0 : Int32)), (.int (0 : Int32)), (.int (0 : Int32)), (.int (0 : Int32)), (.int (0 : Int32)), (.int (0 : Int32)), (.int (0 : Int32)), (.int (0 : Int32)), (.int (0 : Int32)), (.int (0 : Int32)), (.int (0 : Int32)), (.int (0 : Int32)), (.int (0 : Int32)), (.int (0 : Int32)), (.int (0 : Int32)), (.int (0 : Int32)), (.int (0 : Int32)), (.int (0 : Int32)), (.int (0 : Int32)), (.int (0 : Int32)), (.int (0 : Int32)), (.int (0 : Int32)), (.int (0 : Int32)), (.int (0 : Int32)), (.int (0 : Int32)), (.int (0 : Int32)), (.int (0 : Int32)), (.int (0 : Int32)), (.int (0 : Int32)), (.int (0 : Int32)), (.int (0 : Int32)), (.int (0 : Int32)), (.int (0 : Int32)), (.int (0 : Int32)), (.int (0 : Int32)), (.int (0 : Int32)), (.int (0 : Int32)), (.int (0 : Int32)), (.int (0 : Int32)), (.int (0 : Int32)), (.int (0 : Int32)), (.int (0 : Int32)), (.int (0 : Int32))]) :: []) := R20
  have pre21 : ∀ t, Steps p.tables e below (T20.setTop (mkF m 33 #[.val (.int px), .val (.int qx), .val (.int ox), .val (.int dx), .unset, .unset] [(.ref b2)])) t → Steps p.tables e below (s₁.setTop (entryFrame m #[(.int px), (.int qx), (.int ox), (.int dx)] maxLocals)) t := fun t k => pre19 t (st20 t k)
  have pre22 : ∀ t, Steps p.tables e below (T20.setTop (mkF m 38 #[.val (.int px), .val (.int qx), .val (.int ox), .val (.int dx), .unset, .unset] [(.int (90 : Int32)), (.int (6 : Int32)), (.ref b2), (.ref b2)])) t → Steps p.tables e below (s₁.setTop (entryFrame m #[(.int px), (.int qx), (.int ox), (.int dx)] maxLocals)) t := fun t k => pre21 t (by
    show Steps p.tables e below (T20.setTop (mkF m 33 #[.val (.int px), .val (.int qx), .val (.int ox), .val (.int dx), .unset, .unset] [(.ref b2)])) _
    refine XS.dup X20.here hx rfl (hb hby at_33) rfl rfl ?_
    refine XS.bipush X20.here hx rfl (hb hby at_34) ?_
    refine XS.bipush X20.here hx rfl (hb hby at_36) ?_
    exact k)
  obtain ⟨T23, h23, ls23, X23, e23, N23, R23, st23⟩ := gIst X20 hx hZ e20 N20 R20 0 rfl (j := (6 : Int32)) (by decide) (6) rfl (by decide) (g := (mkF m 38 #[.val (.int px), .val (.int qx), .val (.int ox), .val (.int dx), .unset, .unset] [(.int (90 : Int32)), (.int (6 : Int32)), (.ref b2), (.ref b2)])) rfl rfl (hb hby at_38)
  replace R23 : Rep Z n0 h23 ((b2, Ar .int [(.int (0 : Int32)), (.int (57 : Int32)), (.int (58 : Int32)), (.int (59 : Int32)), (.int (64 : Int32)), (.int (65 : Int32)), (.int (90 : Int32)), (.int (0 : Int32)), (.int (0 : Int32)), (.int (0 : Int32)), (.int (0 : Int32)), (.int (0 : Int32)), (.int (0 : Int32)), (.int (0 : Int32)), (.int (0 : Int32)), (.int (0 : Int32)), (.int (0 : Int32)), (.int (0 : Int32)), (.int (0 : Int32)), (.int (0 : Int32)), (.int (0 : Int32)), (.int (0 : Int32)), (.int (0 : Int32)), (.int (0 : Int32)), (.int (0 : Int32)), (.int (0 : Int32)), (.int (0 : Int32)), (.int (0 : Int32)), (.int (0 : Int32)), (.int (0 : Int32)), (.int (0 : Int32)), (.int (0 : Int32)), (.int (0 : Int32)), (.int (0 : Int32)), (.int (0 : Int32)), (.int (0 : Int32)), (.int (0 : Int32)), (.int (0 : Int32)), (.int (0 : Int32)), (.int (0 : Int32)), (.int (0 : Int32)), (.int (0 : Int32)), (.int (0 : Int32)), (.int (0 : Int32)), (.int (0 : Int32)), (.int (0 : Int32)), (.int (0 : Int32)), (.int (0 : Int32)), (.int (0 : Int32)), (.int (0 : Int32)), (.int (0 : Int32)), (.int (0 : Int32)), (.int (0 : Int32)), (.int (0 : Int32)), (.int (0 : Int32)), (.int (0 : Int32)), (.int (0 : Int32)), (.int (0 : Int32)), (.int (0 : Int32)), (.int (0 : Int32)), (.int (0 : Int32)), (.int (0 : Int32)), (.int (0 : Int32)), (.int (0 : Int32)), (.int (0 : Int32))]) :: []) := R23
  have pre24 : ∀ t, Steps p.tables e below (T23.setTop (mkF m 39 #[.val (.int px), .val (.int qx), .val (.int ox), .val (.int dx), .unset, .unset] [(.ref b2)])) t → Steps p.tables e below (s₁.setTop (entryFrame m #[(.int px), (.int qx), (.int ox), (.int dx)] maxLocals)) t := fun t k => pre22 t (st23 t k)
  have pre25 : ∀ t, Steps p.tables e below (T23.setTop (mkF m 44 #[.val (.int px), .val (.int qx), .val (.int ox), .val (.int dx), .unset, .unset] [(.int (91 : Int32)), (.int (7 : Int32)), (.ref b2), (.ref b2)])) t → Steps p.tables e below (s₁.setTop (entryFrame m #[(.int px), (.int qx), (.int ox), (.int dx)] maxLocals)) t := fun t k => pre24 t (by
    show Steps p.tables e below (T23.setTop (mkF m 39 #[.val (.int px), .val (.int qx), .val (.int ox), .val (.int dx), .unset, .unset] [(.ref b2)])) _
    refine XS.dup X23.here hx rfl (hb hby at_39) rfl rfl ?_
    refine XS.bipush X23.here hx rfl (hb hby at_40) ?_
    refine XS.bipush X23.here hx rfl (hb hby at_42) ?_
    exact k)
  obtain ⟨T26, h26, ls26, X26, e26, N26, R26, st26⟩ := gIst X23 hx hZ e23 N23 R23 0 rfl (j := (7 : Int32)) (by decide) (7) rfl (by decide) (g := (mkF m 44 #[.val (.int px), .val (.int qx), .val (.int ox), .val (.int dx), .unset, .unset] [(.int (91 : Int32)), (.int (7 : Int32)), (.ref b2), (.ref b2)])) rfl rfl (hb hby at_44)
  replace R26 : Rep Z n0 h26 ((b2, Ar .int [(.int (0 : Int32)), (.int (57 : Int32)), (.int (58 : Int32)), (.int (59 : Int32)), (.int (64 : Int32)), (.int (65 : Int32)), (.int (90 : Int32)), (.int (91 : Int32)), (.int (0 : Int32)), (.int (0 : Int32)), (.int (0 : Int32)), (.int (0 : Int32)), (.int (0 : Int32)), (.int (0 : Int32)), (.int (0 : Int32)), (.int (0 : Int32)), (.int (0 : Int32)), (.int (0 : Int32)), (.int (0 : Int32)), (.int (0 : Int32)), (.int (0 : Int32)), (.int (0 : Int32)), (.int (0 : Int32)), (.int (0 : Int32)), (.int (0 : Int32)), (.int (0 : Int32)), (.int (0 : Int32)), (.int (0 : Int32)), (.int (0 : Int32)), (.int (0 : Int32)), (.int (0 : Int32)), (.int (0 : Int32)), (.int (0 : Int32)), (.int (0 : Int32)), (.int (0 : Int32)), (.int (0 : Int32)), (.int (0 : Int32)), (.int (0 : Int32)), (.int (0 : Int32)), (.int (0 : Int32)), (.int (0 : Int32)), (.int (0 : Int32)), (.int (0 : Int32)), (.int (0 : Int32)), (.int (0 : Int32)), (.int (0 : Int32)), (.int (0 : Int32)), (.int (0 : Int32)), (.int (0 : Int32)), (.int (0 : Int32)), (.int (0 : Int32)), (.int (0 : Int32)), (.int (0 : Int32)), (.int (0 : Int32)), (.int (0 : Int32)), (.int (0 : Int32)), (.int (0 : Int32)), (.int (0 : Int32)), (.int (0 : Int32)), (.int (0 : Int32)), (.int (0 : Int32)), (.int (0 : Int32)), (.int (0 : Int32)), (.int (0 : Int32)), (.int (0 : Int32))]) :: []) := R26
  have pre27 : ∀ t, Steps p.tables e below (T26.setTop (mkF m 45 #[.val (.int px), .val (.int qx), .val (.int ox), .val (.int dx), .unset, .unset] [(.ref b2)])) t → Steps p.tables e below (s₁.setTop (entryFrame m #[(.int px), (.int qx), (.int ox), (.int dx)] maxLocals)) t := fun t k => pre25 t (st26 t k)
  have pre28 : ∀ t, Steps p.tables e below (T26.setTop (mkF m 50 #[.val (.int px), .val (.int qx), .val (.int ox), .val (.int dx), .unset, .unset] [(.int (94 : Int32)), (.int (8 : Int32)), (.ref b2), (.ref b2)])) t → Steps p.tables e below (s₁.setTop (entryFrame m #[(.int px), (.int qx), (.int ox), (.int dx)] maxLocals)) t := fun t k => pre27 t (by
    show Steps p.tables e below (T26.setTop (mkF m 45 #[.val (.int px), .val (.int qx), .val (.int ox), .val (.int dx), .unset, .unset] [(.ref b2)])) _
    refine XS.dup X26.here hx rfl (hb hby at_45) rfl rfl ?_
    refine XS.bipush X26.here hx rfl (hb hby at_46) ?_
    refine XS.bipush X26.here hx rfl (hb hby at_48) ?_
    exact k)
  obtain ⟨T29, h29, ls29, X29, e29, N29, R29, st29⟩ := gIst X26 hx hZ e26 N26 R26 0 rfl (j := (8 : Int32)) (by decide) (8) rfl (by decide) (g := (mkF m 50 #[.val (.int px), .val (.int qx), .val (.int ox), .val (.int dx), .unset, .unset] [(.int (94 : Int32)), (.int (8 : Int32)), (.ref b2), (.ref b2)])) rfl rfl (hb hby at_50)
  replace R29 : Rep Z n0 h29 ((b2, Ar .int [(.int (0 : Int32)), (.int (57 : Int32)), (.int (58 : Int32)), (.int (59 : Int32)), (.int (64 : Int32)), (.int (65 : Int32)), (.int (90 : Int32)), (.int (91 : Int32)), (.int (94 : Int32)), (.int (0 : Int32)), (.int (0 : Int32)), (.int (0 : Int32)), (.int (0 : Int32)), (.int (0 : Int32)), (.int (0 : Int32)), (.int (0 : Int32)), (.int (0 : Int32)), (.int (0 : Int32)), (.int (0 : Int32)), (.int (0 : Int32)), (.int (0 : Int32)), (.int (0 : Int32)), (.int (0 : Int32)), (.int (0 : Int32)), (.int (0 : Int32)), (.int (0 : Int32)), (.int (0 : Int32)), (.int (0 : Int32)), (.int (0 : Int32)), (.int (0 : Int32)), (.int (0 : Int32)), (.int (0 : Int32)), (.int (0 : Int32)), (.int (0 : Int32)), (.int (0 : Int32)), (.int (0 : Int32)), (.int (0 : Int32)), (.int (0 : Int32)), (.int (0 : Int32)), (.int (0 : Int32)), (.int (0 : Int32)), (.int (0 : Int32)), (.int (0 : Int32)), (.int (0 : Int32)), (.int (0 : Int32)), (.int (0 : Int32)), (.int (0 : Int32)), (.int (0 : Int32)), (.int (0 : Int32)), (.int (0 : Int32)), (.int (0 : Int32)), (.int (0 : Int32)), (.int (0 : Int32)), (.int (0 : Int32)), (.int (0 : Int32)), (.int (0 : Int32)), (.int (0 : Int32)), (.int (0 : Int32)), (.int (0 : Int32)), (.int (0 : Int32)), (.int (0 : Int32)), (.int (0 : Int32)), (.int (0 : Int32)), (.int (0 : Int32)), (.int (0 : Int32))]) :: []) := R29
  have pre30 : ∀ t, Steps p.tables e below (T29.setTop (mkF m 51 #[.val (.int px), .val (.int qx), .val (.int ox), .val (.int dx), .unset, .unset] [(.ref b2)])) t → Steps p.tables e below (s₁.setTop (entryFrame m #[(.int px), (.int qx), (.int ox), (.int dx)] maxLocals)) t := fun t k => pre28 t (st29 t k)
  have pre31 : ∀ t, Steps p.tables e below (T29.setTop (mkF m 56 #[.val (.int px), .val (.int qx), .val (.int ox), .val (.int dx), .unset, .unset] [(.int (95 : Int32)), (.int (9 : Int32)), (.ref b2), (.ref b2)])) t → Steps p.tables e below (s₁.setTop (entryFrame m #[(.int px), (.int qx), (.int ox), (.int dx)] maxLocals)) t := fun t k => pre30 t (by
    show Steps p.tables e below (T29.setTop (mkF m 51 #[.val (.int px), .val (.int qx), .val (.int ox), .val (.int dx), .unset, .unset] [(.ref b2)])) _
    refine XS.dup X29.here hx rfl (hb hby at_51) rfl rfl ?_
    refine XS.bipush X29.here hx rfl (hb hby at_52) ?_
    refine XS.bipush X29.here hx rfl (hb hby at_54) ?_
    exact k)
  obtain ⟨T32, h32, ls32, X32, e32, N32, R32, st32⟩ := gIst X29 hx hZ e29 N29 R29 0 rfl (j := (9 : Int32)) (by decide) (9) rfl (by decide) (g := (mkF m 56 #[.val (.int px), .val (.int qx), .val (.int ox), .val (.int dx), .unset, .unset] [(.int (95 : Int32)), (.int (9 : Int32)), (.ref b2), (.ref b2)])) rfl rfl (hb hby at_56)
  replace R32 : Rep Z n0 h32 ((b2, Ar .int [(.int (0 : Int32)), (.int (57 : Int32)), (.int (58 : Int32)), (.int (59 : Int32)), (.int (64 : Int32)), (.int (65 : Int32)), (.int (90 : Int32)), (.int (91 : Int32)), (.int (94 : Int32)), (.int (95 : Int32)), (.int (0 : Int32)), (.int (0 : Int32)), (.int (0 : Int32)), (.int (0 : Int32)), (.int (0 : Int32)), (.int (0 : Int32)), (.int (0 : Int32)), (.int (0 : Int32)), (.int (0 : Int32)), (.int (0 : Int32)), (.int (0 : Int32)), (.int (0 : Int32)), (.int (0 : Int32)), (.int (0 : Int32)), (.int (0 : Int32)), (.int (0 : Int32)), (.int (0 : Int32)), (.int (0 : Int32)), (.int (0 : Int32)), (.int (0 : Int32)), (.int (0 : Int32)), (.int (0 : Int32)), (.int (0 : Int32)), (.int (0 : Int32)), (.int (0 : Int32)), (.int (0 : Int32)), (.int (0 : Int32)), (.int (0 : Int32)), (.int (0 : Int32)), (.int (0 : Int32)), (.int (0 : Int32)), (.int (0 : Int32)), (.int (0 : Int32)), (.int (0 : Int32)), (.int (0 : Int32)), (.int (0 : Int32)), (.int (0 : Int32)), (.int (0 : Int32)), (.int (0 : Int32)), (.int (0 : Int32)), (.int (0 : Int32)), (.int (0 : Int32)), (.int (0 : Int32)), (.int (0 : Int32)), (.int (0 : Int32)), (.int (0 : Int32)), (.int (0 : Int32)), (.int (0 : Int32)), (.int (0 : Int32)), (.int (0 : Int32)), (.int (0 : Int32)), (.int (0 : Int32)), (.int (0 : Int32)), (.int (0 : Int32)), (.int (0 : Int32))]) :: []) := R32
  have pre33 : ∀ t, Steps p.tables e below (T32.setTop (mkF m 57 #[.val (.int px), .val (.int qx), .val (.int ox), .val (.int dx), .unset, .unset] [(.ref b2)])) t → Steps p.tables e below (s₁.setTop (entryFrame m #[(.int px), (.int qx), (.int ox), (.int dx)] maxLocals)) t := fun t k => pre31 t (st32 t k)
  have pre34 : ∀ t, Steps p.tables e below (T32.setTop (mkF m 62 #[.val (.int px), .val (.int qx), .val (.int ox), .val (.int dx), .unset, .unset] [(.int (96 : Int32)), (.int (10 : Int32)), (.ref b2), (.ref b2)])) t → Steps p.tables e below (s₁.setTop (entryFrame m #[(.int px), (.int qx), (.int ox), (.int dx)] maxLocals)) t := fun t k => pre33 t (by
    show Steps p.tables e below (T32.setTop (mkF m 57 #[.val (.int px), .val (.int qx), .val (.int ox), .val (.int dx), .unset, .unset] [(.ref b2)])) _
    refine XS.dup X32.here hx rfl (hb hby at_57) rfl rfl ?_
    refine XS.bipush X32.here hx rfl (hb hby at_58) ?_
    refine XS.bipush X32.here hx rfl (hb hby at_60) ?_
    exact k)
  obtain ⟨T35, h35, ls35, X35, e35, N35, R35, st35⟩ := gIst X32 hx hZ e32 N32 R32 0 rfl (j := (10 : Int32)) (by decide) (10) rfl (by decide) (g := (mkF m 62 #[.val (.int px), .val (.int qx), .val (.int ox), .val (.int dx), .unset, .unset] [(.int (96 : Int32)), (.int (10 : Int32)), (.ref b2), (.ref b2)])) rfl rfl (hb hby at_62)
  replace R35 : Rep Z n0 h35 ((b2, Ar .int [(.int (0 : Int32)), (.int (57 : Int32)), (.int (58 : Int32)), (.int (59 : Int32)), (.int (64 : Int32)), (.int (65 : Int32)), (.int (90 : Int32)), (.int (91 : Int32)), (.int (94 : Int32)), (.int (95 : Int32)), (.int (96 : Int32)), (.int (0 : Int32)), (.int (0 : Int32)), (.int (0 : Int32)), (.int (0 : Int32)), (.int (0 : Int32)), (.int (0 : Int32)), (.int (0 : Int32)), (.int (0 : Int32)), (.int (0 : Int32)), (.int (0 : Int32)), (.int (0 : Int32)), (.int (0 : Int32)), (.int (0 : Int32)), (.int (0 : Int32)), (.int (0 : Int32)), (.int (0 : Int32)), (.int (0 : Int32)), (.int (0 : Int32)), (.int (0 : Int32)), (.int (0 : Int32)), (.int (0 : Int32)), (.int (0 : Int32)), (.int (0 : Int32)), (.int (0 : Int32)), (.int (0 : Int32)), (.int (0 : Int32)), (.int (0 : Int32)), (.int (0 : Int32)), (.int (0 : Int32)), (.int (0 : Int32)), (.int (0 : Int32)), (.int (0 : Int32)), (.int (0 : Int32)), (.int (0 : Int32)), (.int (0 : Int32)), (.int (0 : Int32)), (.int (0 : Int32)), (.int (0 : Int32)), (.int (0 : Int32)), (.int (0 : Int32)), (.int (0 : Int32)), (.int (0 : Int32)), (.int (0 : Int32)), (.int (0 : Int32)), (.int (0 : Int32)), (.int (0 : Int32)), (.int (0 : Int32)), (.int (0 : Int32)), (.int (0 : Int32)), (.int (0 : Int32)), (.int (0 : Int32)), (.int (0 : Int32)), (.int (0 : Int32)), (.int (0 : Int32))]) :: []) := R35
  have pre36 : ∀ t, Steps p.tables e below (T35.setTop (mkF m 63 #[.val (.int px), .val (.int qx), .val (.int ox), .val (.int dx), .unset, .unset] [(.ref b2)])) t → Steps p.tables e below (s₁.setTop (entryFrame m #[(.int px), (.int qx), (.int ox), (.int dx)] maxLocals)) t := fun t k => pre34 t (st35 t k)
  have pre37 : ∀ t, Steps p.tables e below (T35.setTop (mkF m 68 #[.val (.int px), .val (.int qx), .val (.int ox), .val (.int dx), .unset, .unset] [(.int (97 : Int32)), (.int (11 : Int32)), (.ref b2), (.ref b2)])) t → Steps p.tables e below (s₁.setTop (entryFrame m #[(.int px), (.int qx), (.int ox), (.int dx)] maxLocals)) t := fun t k => pre36 t (by
    show Steps p.tables e below (T35.setTop (mkF m 63 #[.val (.int px), .val (.int qx), .val (.int ox), .val (.int dx), .unset, .unset] [(.ref b2)])) _
    refine XS.dup X35.here hx rfl (hb hby at_63) rfl rfl ?_
    refine XS.bipush X35.here hx rfl (hb hby at_64) ?_
    refine XS.bipush X35.here hx rfl (hb hby at_66) ?_
    exact k)
  obtain ⟨T38, h38, ls38, X38, e38, N38, R38, st38⟩ := gIst X35 hx hZ e35 N35 R35 0 rfl (j := (11 : Int32)) (by decide) (11) rfl (by decide) (g := (mkF m 68 #[.val (.int px), .val (.int qx), .val (.int ox), .val (.int dx), .unset, .unset] [(.int (97 : Int32)), (.int (11 : Int32)), (.ref b2), (.ref b2)])) rfl rfl (hb hby at_68)
  replace R38 : Rep Z n0 h38 ((b2, Ar .int [(.int (0 : Int32)), (.int (57 : Int32)), (.int (58 : Int32)), (.int (59 : Int32)), (.int (64 : Int32)), (.int (65 : Int32)), (.int (90 : Int32)), (.int (91 : Int32)), (.int (94 : Int32)), (.int (95 : Int32)), (.int (96 : Int32)), (.int (97 : Int32)), (.int (0 : Int32)), (.int (0 : Int32)), (.int (0 : Int32)), (.int (0 : Int32)), (.int (0 : Int32)), (.int (0 : Int32)), (.int (0 : Int32)), (.int (0 : Int32)), (.int (0 : Int32)), (.int (0 : Int32)), (.int (0 : Int32)), (.int (0 : Int32)), (.int (0 : Int32)), (.int (0 : Int32)), (.int (0 : Int32)), (.int (0 : Int32)), (.int (0 : Int32)), (.int (0 : Int32)), (.int (0 : Int32)), (.int (0 : Int32)), (.int (0 : Int32)), (.int (0 : Int32)), (.int (0 : Int32)), (.int (0 : Int32)), (.int (0 : Int32)), (.int (0 : Int32)), (.int (0 : Int32)), (.int (0 : Int32)), (.int (0 : Int32)), (.int (0 : Int32)), (.int (0 : Int32)), (.int (0 : Int32)), (.int (0 : Int32)), (.int (0 : Int32)), (.int (0 : Int32)), (.int (0 : Int32)), (.int (0 : Int32)), (.int (0 : Int32)), (.int (0 : Int32)), (.int (0 : Int32)), (.int (0 : Int32)), (.int (0 : Int32)), (.int (0 : Int32)), (.int (0 : Int32)), (.int (0 : Int32)), (.int (0 : Int32)), (.int (0 : Int32)), (.int (0 : Int32)), (.int (0 : Int32)), (.int (0 : Int32)), (.int (0 : Int32)), (.int (0 : Int32)), (.int (0 : Int32))]) :: []) := R38
  have pre39 : ∀ t, Steps p.tables e below (T38.setTop (mkF m 69 #[.val (.int px), .val (.int qx), .val (.int ox), .val (.int dx), .unset, .unset] [(.ref b2)])) t → Steps p.tables e below (s₁.setTop (entryFrame m #[(.int px), (.int qx), (.int ox), (.int dx)] maxLocals)) t := fun t k => pre37 t (st38 t k)
  have pre40 : ∀ t, Steps p.tables e below (T38.setTop (mkF m 74 #[.val (.int px), .val (.int qx), .val (.int ox), .val (.int dx), .unset, .unset] [(.int (122 : Int32)), (.int (12 : Int32)), (.ref b2), (.ref b2)])) t → Steps p.tables e below (s₁.setTop (entryFrame m #[(.int px), (.int qx), (.int ox), (.int dx)] maxLocals)) t := fun t k => pre39 t (by
    show Steps p.tables e below (T38.setTop (mkF m 69 #[.val (.int px), .val (.int qx), .val (.int ox), .val (.int dx), .unset, .unset] [(.ref b2)])) _
    refine XS.dup X38.here hx rfl (hb hby at_69) rfl rfl ?_
    refine XS.bipush X38.here hx rfl (hb hby at_70) ?_
    refine XS.bipush X38.here hx rfl (hb hby at_72) ?_
    exact k)
  obtain ⟨T41, h41, ls41, X41, e41, N41, R41, st41⟩ := gIst X38 hx hZ e38 N38 R38 0 rfl (j := (12 : Int32)) (by decide) (12) rfl (by decide) (g := (mkF m 74 #[.val (.int px), .val (.int qx), .val (.int ox), .val (.int dx), .unset, .unset] [(.int (122 : Int32)), (.int (12 : Int32)), (.ref b2), (.ref b2)])) rfl rfl (hb hby at_74)
  replace R41 : Rep Z n0 h41 ((b2, Ar .int [(.int (0 : Int32)), (.int (57 : Int32)), (.int (58 : Int32)), (.int (59 : Int32)), (.int (64 : Int32)), (.int (65 : Int32)), (.int (90 : Int32)), (.int (91 : Int32)), (.int (94 : Int32)), (.int (95 : Int32)), (.int (96 : Int32)), (.int (97 : Int32)), (.int (122 : Int32)), (.int (0 : Int32)), (.int (0 : Int32)), (.int (0 : Int32)), (.int (0 : Int32)), (.int (0 : Int32)), (.int (0 : Int32)), (.int (0 : Int32)), (.int (0 : Int32)), (.int (0 : Int32)), (.int (0 : Int32)), (.int (0 : Int32)), (.int (0 : Int32)), (.int (0 : Int32)), (.int (0 : Int32)), (.int (0 : Int32)), (.int (0 : Int32)), (.int (0 : Int32)), (.int (0 : Int32)), (.int (0 : Int32)), (.int (0 : Int32)), (.int (0 : Int32)), (.int (0 : Int32)), (.int (0 : Int32)), (.int (0 : Int32)), (.int (0 : Int32)), (.int (0 : Int32)), (.int (0 : Int32)), (.int (0 : Int32)), (.int (0 : Int32)), (.int (0 : Int32)), (.int (0 : Int32)), (.int (0 : Int32)), (.int (0 : Int32)), (.int (0 : Int32)), (.int (0 : Int32)), (.int (0 : Int32)), (.int (0 : Int32)), (.int (0 : Int32)), (.int (0 : Int32)), (.int (0 : Int32)), (.int (0 : Int32)), (.int (0 : Int32)), (.int (0 : Int32)), (.int (0 : Int32)), (.int (0 : Int32)), (.int (0 : Int32)), (.int (0 : Int32)), (.int (0 : Int32)), (.int (0 : Int32)), (.int (0 : Int32)), (.int (0 : Int32)), (.int (0 : Int32))]) :: []) := R41
  have pre42 : ∀ t, Steps p.tables e below (T41.setTop (mkF m 75 #[.val (.int px), .val (.int qx), .val (.int ox), .val (.int dx), .unset, .unset] [(.ref b2)])) t → Steps p.tables e below (s₁.setTop (entryFrame m #[(.int px), (.int qx), (.int ox), (.int dx)] maxLocals)) t := fun t k => pre40 t (st41 t k)
  have pre43 : ∀ t, Steps p.tables e below (T41.setTop (mkF m 80 #[.val (.int px), .val (.int qx), .val (.int ox), .val (.int dx), .unset, .unset] [(.int (123 : Int32)), (.int (13 : Int32)), (.ref b2), (.ref b2)])) t → Steps p.tables e below (s₁.setTop (entryFrame m #[(.int px), (.int qx), (.int ox), (.int dx)] maxLocals)) t := fun t k => pre42 t (by
    show Steps p.tables e below (T41.setTop (mkF m 75 #[.val (.int px), .val (.int qx), .val (.int ox), .val (.int dx), .unset, .unset] [(.ref b2)])) _
    refine XS.dup X41.here hx rfl (hb hby at_75) rfl rfl ?_
    refine XS.bipush X41.here hx rfl (hb hby at_76) ?_
    refine XS.bipush X41.here hx rfl (hb hby at_78) ?_
    exact k)
  obtain ⟨T44, h44, ls44, X44, e44, N44, R44, st44⟩ := gIst X41 hx hZ e41 N41 R41 0 rfl (j := (13 : Int32)) (by decide) (13) rfl (by decide) (g := (mkF m 80 #[.val (.int px), .val (.int qx), .val (.int ox), .val (.int dx), .unset, .unset] [(.int (123 : Int32)), (.int (13 : Int32)), (.ref b2), (.ref b2)])) rfl rfl (hb hby at_80)
  replace R44 : Rep Z n0 h44 ((b2, Ar .int [(.int (0 : Int32)), (.int (57 : Int32)), (.int (58 : Int32)), (.int (59 : Int32)), (.int (64 : Int32)), (.int (65 : Int32)), (.int (90 : Int32)), (.int (91 : Int32)), (.int (94 : Int32)), (.int (95 : Int32)), (.int (96 : Int32)), (.int (97 : Int32)), (.int (122 : Int32)), (.int (123 : Int32)), (.int (0 : Int32)), (.int (0 : Int32)), (.int (0 : Int32)), (.int (0 : Int32)), (.int (0 : Int32)), (.int (0 : Int32)), (.int (0 : Int32)), (.int (0 : Int32)), (.int (0 : Int32)), (.int (0 : Int32)), (.int (0 : Int32)), (.int (0 : Int32)), (.int (0 : Int32)), (.int (0 : Int32)), (.int (0 : Int32)), (.int (0 : Int32)), (.int (0 : Int32)), (.int (0 : Int32)), (.int (0 : Int32)), (.int (0 : Int32)), (.int (0 : Int32)), (.int (0 : Int32)), (.int (0 : Int32)), (.int (0 : Int32)), (.int (0 : Int32)), (.int (0 : Int32)), (.int (0 : Int32)), (.int (0 : Int32)), (.int (0 : Int32)), (.int (0 : Int32)), (.int (0 : Int32)), (.int (0 : Int32)), (.int (0 : Int32)), (.int (0 : Int32)), (.int (0 : Int32)), (.int (0 : Int32)), (.int (0 : Int32)), (.int (0 : Int32)), (.int (0 : Int32)), (.int (0 : Int32)), (.int (0 : Int32)), (.int (0 : Int32)), (.int (0 : Int32)), (.int (0 : Int32)), (.int (0 : Int32)), (.int (0 : Int32)), (.int (0 : Int32)), (.int (0 : Int32)), (.int (0 : Int32)), (.int (0 : Int32)), (.int (0 : Int32))]) :: []) := R44
  have pre45 : ∀ t, Steps p.tables e below (T44.setTop (mkF m 81 #[.val (.int px), .val (.int qx), .val (.int ox), .val (.int dx), .unset, .unset] [(.ref b2)])) t → Steps p.tables e below (s₁.setTop (entryFrame m #[(.int px), (.int qx), (.int ox), (.int dx)] maxLocals)) t := fun t k => pre43 t (st44 t k)
  have pre46 : ∀ t, Steps p.tables e below (T44.setTop (mkF m 86 #[.val (.int px), .val (.int qx), .val (.int ox), .val (.int dx), .unset, .unset] [(.int (127 : Int32)), (.int (14 : Int32)), (.ref b2), (.ref b2)])) t → Steps p.tables e below (s₁.setTop (entryFrame m #[(.int px), (.int qx), (.int ox), (.int dx)] maxLocals)) t := fun t k => pre45 t (by
    show Steps p.tables e below (T44.setTop (mkF m 81 #[.val (.int px), .val (.int qx), .val (.int ox), .val (.int dx), .unset, .unset] [(.ref b2)])) _
    refine XS.dup X44.here hx rfl (hb hby at_81) rfl rfl ?_
    refine XS.bipush X44.here hx rfl (hb hby at_82) ?_
    refine XS.bipush X44.here hx rfl (hb hby at_84) ?_
    exact k)
  obtain ⟨T47, h47, ls47, X47, e47, N47, R47, st47⟩ := gIst X44 hx hZ e44 N44 R44 0 rfl (j := (14 : Int32)) (by decide) (14) rfl (by decide) (g := (mkF m 86 #[.val (.int px), .val (.int qx), .val (.int ox), .val (.int dx), .unset, .unset] [(.int (127 : Int32)), (.int (14 : Int32)), (.ref b2), (.ref b2)])) rfl rfl (hb hby at_86)
  replace R47 : Rep Z n0 h47 ((b2, Ar .int [(.int (0 : Int32)), (.int (57 : Int32)), (.int (58 : Int32)), (.int (59 : Int32)), (.int (64 : Int32)), (.int (65 : Int32)), (.int (90 : Int32)), (.int (91 : Int32)), (.int (94 : Int32)), (.int (95 : Int32)), (.int (96 : Int32)), (.int (97 : Int32)), (.int (122 : Int32)), (.int (123 : Int32)), (.int (127 : Int32)), (.int (0 : Int32)), (.int (0 : Int32)), (.int (0 : Int32)), (.int (0 : Int32)), (.int (0 : Int32)), (.int (0 : Int32)), (.int (0 : Int32)), (.int (0 : Int32)), (.int (0 : Int32)), (.int (0 : Int32)), (.int (0 : Int32)), (.int (0 : Int32)), (.int (0 : Int32)), (.int (0 : Int32)), (.int (0 : Int32)), (.int (0 : Int32)), (.int (0 : Int32)), (.int (0 : Int32)), (.int (0 : Int32)), (.int (0 : Int32)), (.int (0 : Int32)), (.int (0 : Int32)), (.int (0 : Int32)), (.int (0 : Int32)), (.int (0 : Int32)), (.int (0 : Int32)), (.int (0 : Int32)), (.int (0 : Int32)), (.int (0 : Int32)), (.int (0 : Int32)), (.int (0 : Int32)), (.int (0 : Int32)), (.int (0 : Int32)), (.int (0 : Int32)), (.int (0 : Int32)), (.int (0 : Int32)), (.int (0 : Int32)), (.int (0 : Int32)), (.int (0 : Int32)), (.int (0 : Int32)), (.int (0 : Int32)), (.int (0 : Int32)), (.int (0 : Int32)), (.int (0 : Int32)), (.int (0 : Int32)), (.int (0 : Int32)), (.int (0 : Int32)), (.int (0 : Int32)), (.int (0 : Int32)), (.int (0 : Int32))]) :: []) := R47
  have pre48 : ∀ t, Steps p.tables e below (T47.setTop (mkF m 87 #[.val (.int px), .val (.int qx), .val (.int ox), .val (.int dx), .unset, .unset] [(.ref b2)])) t → Steps p.tables e below (s₁.setTop (entryFrame m #[(.int px), (.int qx), (.int ox), (.int dx)] maxLocals)) t := fun t k => pre46 t (st47 t k)
  have pre49 : ∀ t, Steps p.tables e below (T47.setTop (mkF m 93 #[.val (.int px), .val (.int qx), .val (.int ox), .val (.int dx), .unset, .unset] [(.int (128 : Int32)), (.int (15 : Int32)), (.ref b2), (.ref b2)])) t → Steps p.tables e below (s₁.setTop (entryFrame m #[(.int px), (.int qx), (.int ox), (.int dx)] maxLocals)) t := fun t k => pre48 t (by
    show Steps p.tables e below (T47.setTop (mkF m 87 #[.val (.int px), .val (.int qx), .val (.int ox), .val (.int dx), .unset, .unset] [(.ref b2)])) _
    refine XS.dup X47.here hx rfl (hb hby at_87) rfl rfl ?_
    refine XS.bipush X47.here hx rfl (hb hby at_88) ?_
    refine XS.sipush X47.here hx rfl (hb hby at_90) ?_
    exact k)
  obtain ⟨T50, h50, ls50, X50, e50, N50, R50, st50⟩ := gIst X47 hx hZ e47 N47 R47 0 rfl (j := (15 : Int32)) (by decide) (15) rfl (by decide) (g := (mkF m 93 #[.val (.int px), .val (.int qx), .val (.int ox), .val (.int dx), .unset, .unset] [(.int (128 : Int32)), (.int (15 : Int32)), (.ref b2), (.ref b2)])) rfl rfl (hb hby at_93)
  replace R50 : Rep Z n0 h50 ((b2, Ar .int [(.int (0 : Int32)), (.int (57 : Int32)), (.int (58 : Int32)), (.int (59 : Int32)), (.int (64 : Int32)), (.int (65 : Int32)), (.int (90 : Int32)), (.int (91 : Int32)), (.int (94 : Int32)), (.int (95 : Int32)), (.int (96 : Int32)), (.int (97 : Int32)), (.int (122 : Int32)), (.int (123 : Int32)), (.int (127 : Int32)), (.int (128 : Int32)), (.int (0 : Int32)), (.int (0 : Int32)), (.int (0 : Int32)), (.int (0 : Int32)), (.int (0 : Int32)), (.int (0 : Int32)), (.int (0 : Int32)), (.int (0 : Int32)), (.int (0 : Int32)), (.int (0 : Int32)), (.int (0 : Int32)), (.int (0 : Int32)), (.int (0 : Int32)), (.int (0 : Int32)), (.int (0 : Int32)), (.int (0 : Int32)), (.int (0 : Int32)), (.int (0 : Int32)), (.int (0 : Int32)), (.int (0 : Int32)), (.int (0 : Int32)), (.int (0 : Int32)), (.int (0 : Int32)), (.int (0 : Int32)), (.int (0 : Int32)), (.int (0 : Int32)), (.int (0 : Int32)), (.int (0 : Int32)), (.int (0 : Int32)), (.int (0 : Int32)), (.int (0 : Int32)), (.int (0 : Int32)), (.int (0 : Int32)), (.int (0 : Int32)), (.int (0 : Int32)), (.int (0 : Int32)), (.int (0 : Int32)), (.int (0 : Int32)), (.int (0 : Int32)), (.int (0 : Int32)), (.int (0 : Int32)), (.int (0 : Int32)), (.int (0 : Int32)), (.int (0 : Int32)), (.int (0 : Int32)), (.int (0 : Int32)), (.int (0 : Int32)), (.int (0 : Int32)), (.int (0 : Int32))]) :: []) := R50
  have pre51 : ∀ t, Steps p.tables e below (T50.setTop (mkF m 94 #[.val (.int px), .val (.int qx), .val (.int ox), .val (.int dx), .unset, .unset] [(.ref b2)])) t → Steps p.tables e below (s₁.setTop (entryFrame m #[(.int px), (.int qx), (.int ox), (.int dx)] maxLocals)) t := fun t k => pre49 t (st50 t k)
  have pre52 : ∀ t, Steps p.tables e below (T50.setTop (mkF m 100 #[.val (.int px), .val (.int qx), .val (.int ox), .val (.int dx), .unset, .unset] [(.int (191 : Int32)), (.int (16 : Int32)), (.ref b2), (.ref b2)])) t → Steps p.tables e below (s₁.setTop (entryFrame m #[(.int px), (.int qx), (.int ox), (.int dx)] maxLocals)) t := fun t k => pre51 t (by
    show Steps p.tables e below (T50.setTop (mkF m 94 #[.val (.int px), .val (.int qx), .val (.int ox), .val (.int dx), .unset, .unset] [(.ref b2)])) _
    refine XS.dup X50.here hx rfl (hb hby at_94) rfl rfl ?_
    refine XS.bipush X50.here hx rfl (hb hby at_95) ?_
    refine XS.sipush X50.here hx rfl (hb hby at_97) ?_
    exact k)
  obtain ⟨T53, h53, ls53, X53, e53, N53, R53, st53⟩ := gIst X50 hx hZ e50 N50 R50 0 rfl (j := (16 : Int32)) (by decide) (16) rfl (by decide) (g := (mkF m 100 #[.val (.int px), .val (.int qx), .val (.int ox), .val (.int dx), .unset, .unset] [(.int (191 : Int32)), (.int (16 : Int32)), (.ref b2), (.ref b2)])) rfl rfl (hb hby at_100)
  replace R53 : Rep Z n0 h53 ((b2, Ar .int [(.int (0 : Int32)), (.int (57 : Int32)), (.int (58 : Int32)), (.int (59 : Int32)), (.int (64 : Int32)), (.int (65 : Int32)), (.int (90 : Int32)), (.int (91 : Int32)), (.int (94 : Int32)), (.int (95 : Int32)), (.int (96 : Int32)), (.int (97 : Int32)), (.int (122 : Int32)), (.int (123 : Int32)), (.int (127 : Int32)), (.int (128 : Int32)), (.int (191 : Int32)), (.int (0 : Int32)), (.int (0 : Int32)), (.int (0 : Int32)), (.int (0 : Int32)), (.int (0 : Int32)), (.int (0 : Int32)), (.int (0 : Int32)), (.int (0 : Int32)), (.int (0 : Int32)), (.int (0 : Int32)), (.int (0 : Int32)), (.int (0 : Int32)), (.int (0 : Int32)), (.int (0 : Int32)), (.int (0 : Int32)), (.int (0 : Int32)), (.int (0 : Int32)), (.int (0 : Int32)), (.int (0 : Int32)), (.int (0 : Int32)), (.int (0 : Int32)), (.int (0 : Int32)), (.int (0 : Int32)), (.int (0 : Int32)), (.int (0 : Int32)), (.int (0 : Int32)), (.int (0 : Int32)), (.int (0 : Int32)), (.int (0 : Int32)), (.int (0 : Int32)), (.int (0 : Int32)), (.int (0 : Int32)), (.int (0 : Int32)), (.int (0 : Int32)), (.int (0 : Int32)), (.int (0 : Int32)), (.int (0 : Int32)), (.int (0 : Int32)), (.int (0 : Int32)), (.int (0 : Int32)), (.int (0 : Int32)), (.int (0 : Int32)), (.int (0 : Int32)), (.int (0 : Int32)), (.int (0 : Int32)), (.int (0 : Int32)), (.int (0 : Int32)), (.int (0 : Int32))]) :: []) := R53
  have pre54 : ∀ t, Steps p.tables e below (T53.setTop (mkF m 101 #[.val (.int px), .val (.int qx), .val (.int ox), .val (.int dx), .unset, .unset] [(.ref b2)])) t → Steps p.tables e below (s₁.setTop (entryFrame m #[(.int px), (.int qx), (.int ox), (.int dx)] maxLocals)) t := fun t k => pre52 t (st53 t k)
  have pre55 : ∀ t, Steps p.tables e below (T53.setTop (mkF m 107 #[.val (.int px), .val (.int qx), .val (.int ox), .val (.int dx), .unset, .unset] [(.int (192 : Int32)), (.int (17 : Int32)), (.ref b2), (.ref b2)])) t → Steps p.tables e below (s₁.setTop (entryFrame m #[(.int px), (.int qx), (.int ox), (.int dx)] maxLocals)) t := fun t k => pre54 t (by
    show Steps p.tables e below (T53.setTop (mkF m 101 #[.val (.int px), .val (.int qx), .val (.int ox), .val (.int dx), .unset, .unset] [(.ref b2)])) _
    refine XS.dup X53.here hx rfl (hb hby at_101) rfl rfl ?_
    refine XS.bipush X53.here hx rfl (hb hby at_102) ?_
    refine XS.sipush X53.here hx rfl (hb hby at_104) ?_
    exact k)
  obtain ⟨T56, h56, ls56, X56, e56, N56, R56, st56⟩ := gIst X53 hx hZ e53 N53 R53 0 rfl (j := (17 : Int32)) (by decide) (17) rfl (by decide) (g := (mkF m 107 #[.val (.int px), .val (.int qx), .val (.int ox), .val (.int dx), .unset, .unset] [(.int (192 : Int32)), (.int (17 : Int32)), (.ref b2), (.ref b2)])) rfl rfl (hb hby at_107)
  replace R56 : Rep Z n0 h56 ((b2, Ar .int [(.int (0 : Int32)), (.int (57 : Int32)), (.int (58 : Int32)), (.int (59 : Int32)), (.int (64 : Int32)), (.int (65 : Int32)), (.int (90 : Int32)), (.int (91 : Int32)), (.int (94 : Int32)), (.int (95 : Int32)), (.int (96 : Int32)), (.int (97 : Int32)), (.int (122 : Int32)), (.int (123 : Int32)), (.int (127 : Int32)), (.int (128 : Int32)), (.int (191 : Int32)), (.int (192 : Int32)), (.int (0 : Int32)), (.int (0 : Int32)), (.int (0 : Int32)), (.int (0 : Int32)), (.int (0 : Int32)), (.int (0 : Int32)), (.int (0 : Int32)), (.int (0 : Int32)), (.int (0 : Int32)), (.int (0 : Int32)), (.int (0 : Int32)), (.int (0 : Int32)), (.int (0 : Int32)), (.int (0 : Int32)), (.int (0 : Int32)), (.int (0 : Int32)), (.int (0 : Int32)), (.int (0 : Int32)), (.int (0 : Int32)), (.int (0 : Int32)), (.int (0 : Int32)), (.int (0 : Int32)), (.int (0 : Int32)), (.int (0 : Int32)), (.int (0 : Int32)), (.int (0 : Int32)), (.int (0 : Int32)), (.int (0 : Int32)), (.int (0 : Int32)), (.int (0 : Int32)), (.int (0 : Int32)), (.int (0 : Int32)), (.int (0 : Int32)), (.int (0 : Int32)), (.int (0 : Int32)), (.int (0 : Int32)), (.int (0 : Int32)), (.int (0 : Int32)), (.int (0 : Int32)), (.int (0 : Int32)), (.int (0 : Int32)), (.int (0 : Int32)), (.int (0 : Int32)), (.int (0 : Int32)), (.int (0 : Int32)), (.int (0 : Int32)), (.int (0 : Int32))]) :: []) := R56
  have pre57 : ∀ t, Steps p.tables e below (T56.setTop (mkF m 108 #[.val (.int px), .val (.int qx), .val (.int ox), .val (.int dx), .unset, .unset] [(.ref b2)])) t → Steps p.tables e below (s₁.setTop (entryFrame m #[(.int px), (.int qx), (.int ox), (.int dx)] maxLocals)) t := fun t k => pre55 t (st56 t k)
  have pre58 : ∀ t, Steps p.tables e below (T56.setTop (mkF m 114 #[.val (.int px), .val (.int qx), .val (.int ox), .val (.int dx), .unset, .unset] [(.int (214 : Int32)), (.int (18 : Int32)), (.ref b2), (.ref b2)])) t → Steps p.tables e below (s₁.setTop (entryFrame m #[(.int px), (.int qx), (.int ox), (.int dx)] maxLocals)) t := fun t k => pre57 t (by
    show Steps p.tables e below (T56.setTop (mkF m 108 #[.val (.int px), .val (.int qx), .val (.int ox), .val (.int dx), .unset, .unset] [(.ref b2)])) _
    refine XS.dup X56.here hx rfl (hb hby at_108) rfl rfl ?_
    refine XS.bipush X56.here hx rfl (hb hby at_109) ?_
    refine XS.sipush X56.here hx rfl (hb hby at_111) ?_
    exact k)
  obtain ⟨T59, h59, ls59, X59, e59, N59, R59, st59⟩ := gIst X56 hx hZ e56 N56 R56 0 rfl (j := (18 : Int32)) (by decide) (18) rfl (by decide) (g := (mkF m 114 #[.val (.int px), .val (.int qx), .val (.int ox), .val (.int dx), .unset, .unset] [(.int (214 : Int32)), (.int (18 : Int32)), (.ref b2), (.ref b2)])) rfl rfl (hb hby at_114)
  replace R59 : Rep Z n0 h59 ((b2, Ar .int [(.int (0 : Int32)), (.int (57 : Int32)), (.int (58 : Int32)), (.int (59 : Int32)), (.int (64 : Int32)), (.int (65 : Int32)), (.int (90 : Int32)), (.int (91 : Int32)), (.int (94 : Int32)), (.int (95 : Int32)), (.int (96 : Int32)), (.int (97 : Int32)), (.int (122 : Int32)), (.int (123 : Int32)), (.int (127 : Int32)), (.int (128 : Int32)), (.int (191 : Int32)), (.int (192 : Int32)), (.int (214 : Int32)), (.int (0 : Int32)), (.int (0 : Int32)), (.int (0 : Int32)), (.int (0 : Int32)), (.int (0 : Int32)), (.int (0 : Int32)), (.int (0 : Int32)), (.int (0 : Int32)), (.int (0 : Int32)), (.int (0 : Int32)), (.int (0 : Int32)), (.int (0 : Int32)), (.int (0 : Int32)), (.int (0 : Int32)), (.int (0 : Int32)), (.int (0 : Int32)), (.int (0 : Int32)), (.int (0 : Int32)), (.int (0 : Int32)), (.int (0 : Int32)), (.int (0 : Int32)), (.int (0 : Int32)), (.int (0 : Int32)), (.int (0 : Int32)), (.int (0 : Int32)), (.int (0 : Int32)), (.int (0 : Int32)), (.int (0 : Int32)), (.int (0 : Int32)), (.int (0 : Int32)), (.int (0 : Int32)), (.int (0 : Int32)), (.int (0 : Int32)), (.int (0 : Int32)), (.int (0 : Int32)), (.int (0 : Int32)), (.int (0 : Int32)), (.int (0 : Int32)), (.int (0 : Int32)), (.int (0 : Int32)), (.int (0 : Int32)), (.int (0 : Int32)), (.int (0 : Int32)), (.int (0 : Int32)), (.int (0 : Int32)), (.int (0 : Int32))]) :: []) := R59
  have pre60 : ∀ t, Steps p.tables e below (T59.setTop (mkF m 115 #[.val (.int px), .val (.int qx), .val (.int ox), .val (.int dx), .unset, .unset] [(.ref b2)])) t → Steps p.tables e below (s₁.setTop (entryFrame m #[(.int px), (.int qx), (.int ox), (.int dx)] maxLocals)) t := fun t k => pre58 t (st59 t k)
  have pre61 : ∀ t, Steps p.tables e below (T59.setTop (mkF m 121 #[.val (.int px), .val (.int qx), .val (.int ox), .val (.int dx), .unset, .unset] [(.int (215 : Int32)), (.int (19 : Int32)), (.ref b2), (.ref b2)])) t → Steps p.tables e below (s₁.setTop (entryFrame m #[(.int px), (.int qx), (.int ox), (.int dx)] maxLocals)) t := fun t k => pre60 t (by
    show Steps p.tables e below (T59.setTop (mkF m 115 #[.val (.int px), .val (.int qx), .val (.int ox), .val (.int dx), .unset, .unset] [(.ref b2)])) _
    refine XS.dup X59.here hx rfl (hb hby at_115) rfl rfl ?_
    refine XS.bipush X59.here hx rfl (hb hby at_116) ?_
    refine XS.sipush X59.here hx rfl (hb hby at_118) ?_
    exact k)
  obtain ⟨T62, h62, ls62, X62, e62, N62, R62, st62⟩ := gIst X59 hx hZ e59 N59 R59 0 rfl (j := (19 : Int32)) (by decide) (19) rfl (by decide) (g := (mkF m 121 #[.val (.int px), .val (.int qx), .val (.int ox), .val (.int dx), .unset, .unset] [(.int (215 : Int32)), (.int (19 : Int32)), (.ref b2), (.ref b2)])) rfl rfl (hb hby at_121)
  replace R62 : Rep Z n0 h62 ((b2, Ar .int [(.int (0 : Int32)), (.int (57 : Int32)), (.int (58 : Int32)), (.int (59 : Int32)), (.int (64 : Int32)), (.int (65 : Int32)), (.int (90 : Int32)), (.int (91 : Int32)), (.int (94 : Int32)), (.int (95 : Int32)), (.int (96 : Int32)), (.int (97 : Int32)), (.int (122 : Int32)), (.int (123 : Int32)), (.int (127 : Int32)), (.int (128 : Int32)), (.int (191 : Int32)), (.int (192 : Int32)), (.int (214 : Int32)), (.int (215 : Int32)), (.int (0 : Int32)), (.int (0 : Int32)), (.int (0 : Int32)), (.int (0 : Int32)), (.int (0 : Int32)), (.int (0 : Int32)), (.int (0 : Int32)), (.int (0 : Int32)), (.int (0 : Int32)), (.int (0 : Int32)), (.int (0 : Int32)), (.int (0 : Int32)), (.int (0 : Int32)), (.int (0 : Int32)), (.int (0 : Int32)), (.int (0 : Int32)), (.int (0 : Int32)), (.int (0 : Int32)), (.int (0 : Int32)), (.int (0 : Int32)), (.int (0 : Int32)), (.int (0 : Int32)), (.int (0 : Int32)), (.int (0 : Int32)), (.int (0 : Int32)), (.int (0 : Int32)), (.int (0 : Int32)), (.int (0 : Int32)), (.int (0 : Int32)), (.int (0 : Int32)), (.int (0 : Int32)), (.int (0 : Int32)), (.int (0 : Int32)), (.int (0 : Int32)), (.int (0 : Int32)), (.int (0 : Int32)), (.int (0 : Int32)), (.int (0 : Int32)), (.int (0 : Int32)), (.int (0 : Int32)), (.int (0 : Int32)), (.int (0 : Int32)), (.int (0 : Int32)), (.int (0 : Int32)), (.int (0 : Int32))]) :: []) := R62
  have pre63 : ∀ t, Steps p.tables e below (T62.setTop (mkF m 122 #[.val (.int px), .val (.int qx), .val (.int ox), .val (.int dx), .unset, .unset] [(.ref b2)])) t → Steps p.tables e below (s₁.setTop (entryFrame m #[(.int px), (.int qx), (.int ox), (.int dx)] maxLocals)) t := fun t k => pre61 t (st62 t k)
  have pre64 : ∀ t, Steps p.tables e below (T62.setTop (mkF m 128 #[.val (.int px), .val (.int qx), .val (.int ox), .val (.int dx), .unset, .unset] [(.int (216 : Int32)), (.int (20 : Int32)), (.ref b2), (.ref b2)])) t → Steps p.tables e below (s₁.setTop (entryFrame m #[(.int px), (.int qx), (.int ox), (.int dx)] maxLocals)) t := fun t k => pre63 t (by
    show Steps p.tables e below (T62.setTop (mkF m 122 #[.val (.int px), .val (.int qx), .val (.int ox), .val (.int dx), .unset, .unset] [(.ref b2)])) _
    refine XS.dup X62.here hx rfl (hb hby at_122) rfl rfl ?_
    refine XS.bipush X62.here hx rfl (hb hby at_123) ?_
    refine XS.sipush X62.here hx rfl (hb hby at_125) ?_
    exact k)
  obtain ⟨T65, h65, ls65, X65, e65, N65, R65, st65⟩ := gIst X62 hx hZ e62 N62 R62 0 rfl (j := (20 : Int32)) (by decide) (20) rfl (by decide) (g := (mkF m 128 #[.val (.int px), .val (.int qx), .val (.int ox), .val (.int dx), .unset, .unset] [(.int (216 : Int32)), (.int (20 : Int32)), (.ref b2), (.ref b2)])) rfl rfl (hb hby at_128)
  replace R65 : Rep Z n0 h65 ((b2, Ar .int [(.int (0 : Int32)), (.int (57 : Int32)), (.int (58 : Int32)), (.int (59 : Int32)), (.int (64 : Int32)), (.int (65 : Int32)), (.int (90 : Int32)), (.int (91 : Int32)), (.int (94 : Int32)), (.int (95 : Int32)), (.int (96 : Int32)), (.int (97 : Int32)), (.int (122 : Int32)), (.int (123 : Int32)), (.int (127 : Int32)), (.int (128 : Int32)), (.int (191 : Int32)), (.int (192 : Int32)), (.int (214 : Int32)), (.int (215 : Int32)), (.int (216 : Int32)), (.int (0 : Int32)), (.int (0 : Int32)), (.int (0 : Int32)), (.int (0 : Int32)), (.int (0 : Int32)), (.int (0 : Int32)), (.int (0 : Int32)), (.int (0 : Int32)), (.int (0 : Int32)), (.int (0 : Int32)), (.int (0 : Int32)), (.int (0 : Int32)), (.int (0 : Int32)), (.int (0 : Int32)), (.int (0 : Int32)), (.int (0 : Int32)), (.int (0 : Int32)), (.int (0 : Int32)), (.int (0 : Int32)), (.int (0 : Int32)), (.int (0 : Int32)), (.int (0 : Int32)), (.int (0 : Int32)), (.int (0 : Int32)), (.int (0 : Int32)), (.int (0 : Int32)), (.int (0 : Int32)), (.int (0 : Int32)), (.int (0 : Int32)), (.int (0 : Int32)), (.int (0 : Int32)), (.int (0 : Int32)), (.int (0 : Int32)), (.int (0 : Int32)), (.int (0 : Int32)), (.int (0 : Int32)), (.int (0 : Int32)), (.int (0 : Int32)), (.int (0 : Int32)), (.int (0 : Int32)), (.int (0 : Int32)), (.int (0 : Int32)), (.int (0 : Int32)), (.int (0 : Int32))]) :: []) := R65
  have pre66 : ∀ t, Steps p.tables e below (T65.setTop (mkF m 129 #[.val (.int px), .val (.int qx), .val (.int ox), .val (.int dx), .unset, .unset] [(.ref b2)])) t → Steps p.tables e below (s₁.setTop (entryFrame m #[(.int px), (.int qx), (.int ox), (.int dx)] maxLocals)) t := fun t k => pre64 t (st65 t k)
  have pre67 : ∀ t, Steps p.tables e below (T65.setTop (mkF m 135 #[.val (.int px), .val (.int qx), .val (.int ox), .val (.int dx), .unset, .unset] [(.int (246 : Int32)), (.int (21 : Int32)), (.ref b2), (.ref b2)])) t → Steps p.tables e below (s₁.setTop (entryFrame m #[(.int px), (.int qx), (.int ox), (.int dx)] maxLocals)) t := fun t k => pre66 t (by
    show Steps p.tables e below (T65.setTop (mkF m 129 #[.val (.int px), .val (.int qx), .val (.int ox), .val (.int dx), .unset, .unset] [(.ref b2)])) _
    refine XS.dup X65.here hx rfl (hb hby at_129) rfl rfl ?_
    refine XS.bipush X65.here hx rfl (hb hby at_130) ?_
    refine XS.sipush X65.here hx rfl (hb hby at_132) ?_
    exact k)
  obtain ⟨T68, h68, ls68, X68, e68, N68, R68, st68⟩ := gIst X65 hx hZ e65 N65 R65 0 rfl (j := (21 : Int32)) (by decide) (21) rfl (by decide) (g := (mkF m 135 #[.val (.int px), .val (.int qx), .val (.int ox), .val (.int dx), .unset, .unset] [(.int (246 : Int32)), (.int (21 : Int32)), (.ref b2), (.ref b2)])) rfl rfl (hb hby at_135)
  replace R68 : Rep Z n0 h68 ((b2, Ar .int [(.int (0 : Int32)), (.int (57 : Int32)), (.int (58 : Int32)), (.int (59 : Int32)), (.int (64 : Int32)), (.int (65 : Int32)), (.int (90 : Int32)), (.int (91 : Int32)), (.int (94 : Int32)), (.int (95 : Int32)), (.int (96 : Int32)), (.int (97 : Int32)), (.int (122 : Int32)), (.int (123 : Int32)), (.int (127 : Int32)), (.int (128 : Int32)), (.int (191 : Int32)), (.int (192 : Int32)), (.int (214 : Int32)), (.int (215 : Int32)), (.int (216 : Int32)), (.int (246 : Int32)), (.int (0 : Int32)), (.int (0 : Int32)), (.int (0 : Int32)), (.int (0 : Int32)), (.int (0 : Int32)), (.int (0 : Int32)), (.int (0 : Int32)), (.int (0 : Int32)), (.int (0 : Int32)), (.int (0 : Int32)), (.int (0 : Int32)), (.int (0 : Int32)), (.int (0 : Int32)), (.int (0 : Int32)), (.int (0 : Int32)), (.int (0 : Int32)), (.int (0 : Int32)), (.int (0 : Int32)), (.int (0 : Int32)), (.int (0 : Int32)), (.int (0 : Int32)), (.int (0 : Int32)), (.int (0 : Int32)), (.int (0 : Int32)), (.int (0 : Int32)), (.int (0 : Int32)), (.int (0 : Int32)), (.int (0 : Int32)), (.int (0 : Int32)), (.int (0 : Int32)), (.int (0 : Int32)), (.int (0 : Int32)), (.int (0 : Int32)), (.int (0 : Int32)), (.int (0 : Int32)), (.int (0 : Int32)), (.int (0 : Int32)), (.int (0 : Int32)), (.int (0 : Int32)), (.int (0 : Int32)), (.int (0 : Int32)), (.int (0 : Int32)), (.int (0 : Int32))]) :: []) := R68
  have pre69 : ∀ t, Steps p.tables e below (T68.setTop (mkF m 136 #[.val (.int px), .val (.int qx), .val (.int ox), .val (.int dx), .unset, .unset] [(.ref b2)])) t → Steps p.tables e below (s₁.setTop (entryFrame m #[(.int px), (.int qx), (.int ox), (.int dx)] maxLocals)) t := fun t k => pre67 t (st68 t k)
  have pre70 : ∀ t, Steps p.tables e below (T68.setTop (mkF m 142 #[.val (.int px), .val (.int qx), .val (.int ox), .val (.int dx), .unset, .unset] [(.int (247 : Int32)), (.int (22 : Int32)), (.ref b2), (.ref b2)])) t → Steps p.tables e below (s₁.setTop (entryFrame m #[(.int px), (.int qx), (.int ox), (.int dx)] maxLocals)) t := fun t k => pre69 t (by
    show Steps p.tables e below (T68.setTop (mkF m 136 #[.val (.int px), .val (.int qx), .val (.int ox), .val (.int dx), .unset, .unset] [(.ref b2)])) _
    refine XS.dup X68.here hx rfl (hb hby at_136) rfl rfl ?_
    refine XS.bipush X68.here hx rfl (hb hby at_137) ?_
    refine XS.sipush X68.here hx rfl (hb hby at_139) ?_
    exact k)
  obtain ⟨T71, h71, ls71, X71, e71, N71, R71, st71⟩ := gIst X68 hx hZ e68 N68 R68 0 rfl (j := (22 : Int32)) (by decide) (22) rfl (by decide) (g := (mkF m 142 #[.val (.int px), .val (.int qx), .val (.int ox), .val (.int dx), .unset, .unset] [(.int (247 : Int32)), (.int (22 : Int32)), (.ref b2), (.ref b2)])) rfl rfl (hb hby at_142)
  replace R71 : Rep Z n0 h71 ((b2, Ar .int [(.int (0 : Int32)), (.int (57 : Int32)), (.int (58 : Int32)), (.int (59 : Int32)), (.int (64 : Int32)), (.int (65 : Int32)), (.int (90 : Int32)), (.int (91 : Int32)), (.int (94 : Int32)), (.int (95 : Int32)), (.int (96 : Int32)), (.int (97 : Int32)), (.int (122 : Int32)), (.int (123 : Int32)), (.int (127 : Int32)), (.int (128 : Int32)), (.int (191 : Int32)), (.int (192 : Int32)), (.int (214 : Int32)), (.int (215 : Int32)), (.int (216 : Int32)), (.int (246 : Int32)), (.int (247 : Int32)), (.int (0 : Int32)), (.int (0 : Int32)), (.int (0 : Int32)), (.int (0 : Int32)), (.int (0 : Int32)), (.int (0 : Int32)), (.int (0 : Int32)), (.int (0 : Int32)), (.int (0 : Int32)), (.int (0 : Int32)), (.int (0 : Int32)), (.int (0 : Int32)), (.int (0 : Int32)), (.int (0 : Int32)), (.int (0 : Int32)), (.int (0 : Int32)), (.int (0 : Int32)), (.int (0 : Int32)), (.int (0 : Int32)), (.int (0 : Int32)), (.int (0 : Int32)), (.int (0 : Int32)), (.int (0 : Int32)), (.int (0 : Int32)), (.int (0 : Int32)), (.int (0 : Int32)), (.int (0 : Int32)), (.int (0 : Int32)), (.int (0 : Int32)), (.int (0 : Int32)), (.int (0 : Int32)), (.int (0 : Int32)), (.int (0 : Int32)), (.int (0 : Int32)), (.int (0 : Int32)), (.int (0 : Int32)), (.int (0 : Int32)), (.int (0 : Int32)), (.int (0 : Int32)), (.int (0 : Int32)), (.int (0 : Int32)), (.int (0 : Int32))]) :: []) := R71
  have pre72 : ∀ t, Steps p.tables e below (T71.setTop (mkF m 143 #[.val (.int px), .val (.int qx), .val (.int ox), .val (.int dx), .unset, .unset] [(.ref b2)])) t → Steps p.tables e below (s₁.setTop (entryFrame m #[(.int px), (.int qx), (.int ox), (.int dx)] maxLocals)) t := fun t k => pre70 t (st71 t k)
  have pre73 : ∀ t, Steps p.tables e below (T71.setTop (mkF m 149 #[.val (.int px), .val (.int qx), .val (.int ox), .val (.int dx), .unset, .unset] [(.int (248 : Int32)), (.int (23 : Int32)), (.ref b2), (.ref b2)])) t → Steps p.tables e below (s₁.setTop (entryFrame m #[(.int px), (.int qx), (.int ox), (.int dx)] maxLocals)) t := fun t k => pre72 t (by
    show Steps p.tables e below (T71.setTop (mkF m 143 #[.val (.int px), .val (.int qx), .val (.int ox), .val (.int dx), .unset, .unset] [(.ref b2)])) _
    refine XS.dup X71.here hx rfl (hb hby at_143) rfl rfl ?_
    refine XS.bipush X71.here hx rfl (hb hby at_144) ?_
    refine XS.sipush X71.here hx rfl (hb hby at_146) ?_
    exact k)
  obtain ⟨T74, h74, ls74, X74, e74, N74, R74, st74⟩ := gIst X71 hx hZ e71 N71 R71 0 rfl (j := (23 : Int32)) (by decide) (23) rfl (by decide) (g := (mkF m 149 #[.val (.int px), .val (.int qx), .val (.int ox), .val (.int dx), .unset, .unset] [(.int (248 : Int32)), (.int (23 : Int32)), (.ref b2), (.ref b2)])) rfl rfl (hb hby at_149)
  replace R74 : Rep Z n0 h74 ((b2, Ar .int [(.int (0 : Int32)), (.int (57 : Int32)), (.int (58 : Int32)), (.int (59 : Int32)), (.int (64 : Int32)), (.int (65 : Int32)), (.int (90 : Int32)), (.int (91 : Int32)), (.int (94 : Int32)), (.int (95 : Int32)), (.int (96 : Int32)), (.int (97 : Int32)), (.int (122 : Int32)), (.int (123 : Int32)), (.int (127 : Int32)), (.int (128 : Int32)), (.int (191 : Int32)), (.int (192 : Int32)), (.int (214 : Int32)), (.int (215 : Int32)), (.int (216 : Int32)), (.int (246 : Int32)), (.int (247 : Int32)), (.int (248 : Int32)), (.int (0 : Int32)), (.int (0 : Int32)), (.int (0 : Int32)), (.int (0 : Int32)), (.int (0 : Int32)), (.int (0 : Int32)), (.int (0 : Int32)), (.int (0 : Int32)), (.int (0 : Int32)), (.int (0 : Int32)), (.int (0 : Int32)), (.int (0 : Int32)), (.int (0 : Int32)), (.int (0 : Int32)), (.int (0 : Int32)), (.int (0 : Int32)), (.int (0 : Int32)), (.int (0 : Int32)), (.int (0 : Int32)), (.int (0 : Int32)), (.int (0 : Int32)), (.int (0 : Int32)), (.int (0 : Int32)), (.int (0 : Int32)), (.int (0 : Int32)), (.int (0 : Int32)), (.int (0 : Int32)), (.int (0 : Int32)), (.int (0 : Int32)), (.int (0 : Int32)), (.int (0 : Int32)), (.int (0 : Int32)), (.int (0 : Int32)), (.int (0 : Int32)), (.int (0 : Int32)), (.int (0 : Int32)), (.int (0 : Int32)), (.int (0 : Int32)), (.int (0 : Int32)), (.int (0 : Int32)), (.int (0 : Int32))]) :: []) := R74
  have pre75 : ∀ t, Steps p.tables e below (T74.setTop (mkF m 150 #[.val (.int px), .val (.int qx), .val (.int ox), .val (.int dx), .unset, .unset] [(.ref b2)])) t → Steps p.tables e below (s₁.setTop (entryFrame m #[(.int px), (.int qx), (.int ox), (.int dx)] maxLocals)) t := fun t k => pre73 t (st74 t k)
  have pre76 : ∀ t, Steps p.tables e below (T74.setTop (mkF m 156 #[.val (.int px), .val (.int qx), .val (.int ox), .val (.int dx), .unset, .unset] [(.int (767 : Int32)), (.int (24 : Int32)), (.ref b2), (.ref b2)])) t → Steps p.tables e below (s₁.setTop (entryFrame m #[(.int px), (.int qx), (.int ox), (.int dx)] maxLocals)) t := fun t k => pre75 t (by
    show Steps p.tables e below (T74.setTop (mkF m 150 #[.val (.int px), .val (.int qx), .val (.int ox), .val (.int dx), .unset, .unset] [(.ref b2)])) _
    refine XS.dup X74.here hx rfl (hb hby at_150) rfl rfl ?_
    refine XS.bipush X74.here hx rfl (hb hby at_151) ?_
    refine XS.sipush X74.here hx rfl (hb hby at_153) ?_
    exact k)
  obtain ⟨T77, h77, ls77, X77, e77, N77, R77, st77⟩ := gIst X74 hx hZ e74 N74 R74 0 rfl (j := (24 : Int32)) (by decide) (24) rfl (by decide) (g := (mkF m 156 #[.val (.int px), .val (.int qx), .val (.int ox), .val (.int dx), .unset, .unset] [(.int (767 : Int32)), (.int (24 : Int32)), (.ref b2), (.ref b2)])) rfl rfl (hb hby at_156)
  replace R77 : Rep Z n0 h77 ((b2, Ar .int [(.int (0 : Int32)), (.int (57 : Int32)), (.int (58 : Int32)), (.int (59 : Int32)), (.int (64 : Int32)), (.int (65 : Int32)), (.int (90 : Int32)), (.int (91 : Int32)), (.int (94 : Int32)), (.int (95 : Int32)), (.int (96 : Int32)), (.int (97 : Int32)), (.int (122 : Int32)), (.int (123 : Int32)), (.int (127 : Int32)), (.int (128 : Int32)), (.int (191 : Int32)), (.int (192 : Int32)), (.int (214 : Int32)), (.int (215 : Int32)), (.int (216 : Int32)), (.int (246 : Int32)), (.int (247 : Int32)), (.int (248 : Int32)), (.int (767 : Int32)), (.int (0 : Int32)), (.int (0 : Int32)), (.int (0 : Int32)), (.int (0 : Int32)), (.int (0 : Int32)), (.int (0 : Int32)), (.int (0 : Int32)), (.int (0 : Int32)), (.int (0 : Int32)), (.int (0 : Int32)), (.int (0 : Int32)), (.int (0 : Int32)), (.int (0 : Int32)), (.int (0 : Int32)), (.int (0 : Int32)), (.int (0 : Int32)), (.int (0 : Int32)), (.int (0 : Int32)), (.int (0 : Int32)), (.int (0 : Int32)), (.int (0 : Int32)), (.int (0 : Int32)), (.int (0 : Int32)), (.int (0 : Int32)), (.int (0 : Int32)), (.int (0 : Int32)), (.int (0 : Int32)), (.int (0 : Int32)), (.int (0 : Int32)), (.int (0 : Int32)), (.int (0 : Int32)), (.int (0 : Int32)), (.int (0 : Int32)), (.int (0 : Int32)), (.int (0 : Int32)), (.int (0 : Int32)), (.int (0 : Int32)), (.int (0 : Int32)), (.int (0 : Int32)), (.int (0 : Int32))]) :: []) := R77
  have pre78 : ∀ t, Steps p.tables e below (T77.setTop (mkF m 157 #[.val (.int px), .val (.int qx), .val (.int ox), .val (.int dx), .unset, .unset] [(.ref b2)])) t → Steps p.tables e below (s₁.setTop (entryFrame m #[(.int px), (.int qx), (.int ox), (.int dx)] maxLocals)) t := fun t k => pre76 t (st77 t k)
  have pre79 : ∀ t, Steps p.tables e below (T77.setTop (mkF m 163 #[.val (.int px), .val (.int qx), .val (.int ox), .val (.int dx), .unset, .unset] [(.int (768 : Int32)), (.int (25 : Int32)), (.ref b2), (.ref b2)])) t → Steps p.tables e below (s₁.setTop (entryFrame m #[(.int px), (.int qx), (.int ox), (.int dx)] maxLocals)) t := fun t k => pre78 t (by
    show Steps p.tables e below (T77.setTop (mkF m 157 #[.val (.int px), .val (.int qx), .val (.int ox), .val (.int dx), .unset, .unset] [(.ref b2)])) _
    refine XS.dup X77.here hx rfl (hb hby at_157) rfl rfl ?_
    refine XS.bipush X77.here hx rfl (hb hby at_158) ?_
    refine XS.sipush X77.here hx rfl (hb hby at_160) ?_
    exact k)
  obtain ⟨T80, h80, ls80, X80, e80, N80, R80, st80⟩ := gIst X77 hx hZ e77 N77 R77 0 rfl (j := (25 : Int32)) (by decide) (25) rfl (by decide) (g := (mkF m 163 #[.val (.int px), .val (.int qx), .val (.int ox), .val (.int dx), .unset, .unset] [(.int (768 : Int32)), (.int (25 : Int32)), (.ref b2), (.ref b2)])) rfl rfl (hb hby at_163)
  replace R80 : Rep Z n0 h80 ((b2, Ar .int [(.int (0 : Int32)), (.int (57 : Int32)), (.int (58 : Int32)), (.int (59 : Int32)), (.int (64 : Int32)), (.int (65 : Int32)), (.int (90 : Int32)), (.int (91 : Int32)), (.int (94 : Int32)), (.int (95 : Int32)), (.int (96 : Int32)), (.int (97 : Int32)), (.int (122 : Int32)), (.int (123 : Int32)), (.int (127 : Int32)), (.int (128 : Int32)), (.int (191 : Int32)), (.int (192 : Int32)), (.int (214 : Int32)), (.int (215 : Int32)), (.int (216 : Int32)), (.int (246 : Int32)), (.int (247 : Int32)), (.int (248 : Int32)), (.int (767 : Int32)), (.int (768 : Int32)), (.int (0 : Int32)), (.int (0 : Int32)), (.int (0 : Int32)), (.int (0 : Int32)), (.int (0 : Int32)), (.int (0 : Int32)), (.int (0 : Int32)), (.int (0 : Int32)), (.int (0 : Int32)), (.int (0 : Int32)), (.int (0 : Int32)), (.int (0 : Int32)), (.int (0 : Int32)), (.int (0 : Int32)), (.int (0 : Int32)), (.int (0 : Int32)), (.int (0 : Int32)), (.int (0 : Int32)), (.int (0 : Int32)), (.int (0 : Int32)), (.int (0 : Int32)), (.int (0 : Int32)), (.int (0 : Int32)), (.int (0 : Int32)), (.int (0 : Int32)), (.int (0 : Int32)), (.int (0 : Int32)), (.int (0 : Int32)), (.int (0 : Int32)), (.int (0 : Int32)), (.int (0 : Int32)), (.int (0 : Int32)), (.int (0 : Int32)), (.int (0 : Int32)), (.int (0 : Int32)), (.int (0 : Int32)), (.int (0 : Int32)), (.int (0 : Int32)), (.int (0 : Int32))]) :: []) := R80
  have pre81 : ∀ t, Steps p.tables e below (T80.setTop (mkF m 164 #[.val (.int px), .val (.int qx), .val (.int ox), .val (.int dx), .unset, .unset] [(.ref b2)])) t → Steps p.tables e below (s₁.setTop (entryFrame m #[(.int px), (.int qx), (.int ox), (.int dx)] maxLocals)) t := fun t k => pre79 t (st80 t k)
  have pre82 : ∀ t, Steps p.tables e below (T80.setTop (mkF m 170 #[.val (.int px), .val (.int qx), .val (.int ox), .val (.int dx), .unset, .unset] [(.int (879 : Int32)), (.int (26 : Int32)), (.ref b2), (.ref b2)])) t → Steps p.tables e below (s₁.setTop (entryFrame m #[(.int px), (.int qx), (.int ox), (.int dx)] maxLocals)) t := fun t k => pre81 t (by
    show Steps p.tables e below (T80.setTop (mkF m 164 #[.val (.int px), .val (.int qx), .val (.int ox), .val (.int dx), .unset, .unset] [(.ref b2)])) _
    refine XS.dup X80.here hx rfl (hb hby at_164) rfl rfl ?_
    refine XS.bipush X80.here hx rfl (hb hby at_165) ?_
    refine XS.sipush X80.here hx rfl (hb hby at_167) ?_
    exact k)
  obtain ⟨T83, h83, ls83, X83, e83, N83, R83, st83⟩ := gIst X80 hx hZ e80 N80 R80 0 rfl (j := (26 : Int32)) (by decide) (26) rfl (by decide) (g := (mkF m 170 #[.val (.int px), .val (.int qx), .val (.int ox), .val (.int dx), .unset, .unset] [(.int (879 : Int32)), (.int (26 : Int32)), (.ref b2), (.ref b2)])) rfl rfl (hb hby at_170)
  replace R83 : Rep Z n0 h83 ((b2, Ar .int [(.int (0 : Int32)), (.int (57 : Int32)), (.int (58 : Int32)), (.int (59 : Int32)), (.int (64 : Int32)), (.int (65 : Int32)), (.int (90 : Int32)), (.int (91 : Int32)), (.int (94 : Int32)), (.int (95 : Int32)), (.int (96 : Int32)), (.int (97 : Int32)), (.int (122 : Int32)), (.int (123 : Int32)), (.int (127 : Int32)), (.int (128 : Int32)), (.int (191 : Int32)), (.int (192 : Int32)), (.int (214 : Int32)), (.int (215 : Int32)), (.int (216 : Int32)), (.int (246 : Int32)), (.int (247 : Int32)), (.int (248 : Int32)), (.int (767 : Int32)), (.int (768 : Int32)), (.int (879 : Int32)), (.int (0 : Int32)), (.int (0 : Int32)), (.int (0 : Int32)), (.int (0 : Int32)), (.int (0 : Int32)), (.int (0 : Int32)), (.int (0 : Int32)), (.int (0 : Int32)), (.int (0 : Int32)), (.int (0 : Int32)), (.int (0 : Int32)), (.int (0 : Int32)), (.int (0 : Int32)), (.int (0 : Int32)), (.int (0 : Int32)), (.int (0 : Int32)), (.int (0 : Int32)), (.int (0 : Int32)), (.int (0 : Int32)), (.int (0 : Int32)), (.int (0 : Int32)), (.int (0 : Int32)), (.int (0 : Int32)), (.int (0 : Int32)), (.int (0 : Int32)), (.int (0 : Int32)), (.int (0 : Int32)), (.int (0 : Int32)), (.int (0 : Int32)), (.int (0 : Int32)), (.int (0 : Int32)), (.int (0 : Int32)), (.int (0 : Int32)), (.int (0 : Int32)), (.int (0 : Int32)), (.int (0 : Int32)), (.int (0 : Int32)), (.int (0 : Int32))]) :: []) := R83
  have pre84 : ∀ t, Steps p.tables e below (T83.setTop (mkF m 171 #[.val (.int px), .val (.int qx), .val (.int ox), .val (.int dx), .unset, .unset] [(.ref b2)])) t → Steps p.tables e below (s₁.setTop (entryFrame m #[(.int px), (.int qx), (.int ox), (.int dx)] maxLocals)) t := fun t k => pre82 t (st83 t k)
  have pre85 : ∀ t, Steps p.tables e below (T83.setTop (mkF m 177 #[.val (.int px), .val (.int qx), .val (.int ox), .val (.int dx), .unset, .unset] [(.int (880 : Int32)), (.int (27 : Int32)), (.ref b2), (.ref b2)])) t → Steps p.tables e below (s₁.setTop (entryFrame m #[(.int px), (.int qx), (.int ox), (.int dx)] maxLocals)) t := fun t k => pre84 t (by
    show Steps p.tables e below (T83.setTop (mkF m 171 #[.val (.int px), .val (.int qx), .val (.int ox), .val (.int dx), .unset, .unset] [(.ref b2)])) _
    refine XS.dup X83.here hx rfl (hb hby at_171) rfl rfl ?_
    refine XS.bipush X83.here hx rfl (hb hby at_172) ?_
    refine XS.sipush X83.here hx rfl (hb hby at_174) ?_
    exact k)
  obtain ⟨T86, h86, ls86, X86, e86, N86, R86, st86⟩ := gIst X83 hx hZ e83 N83 R83 0 rfl (j := (27 : Int32)) (by decide) (27) rfl (by decide) (g := (mkF m 177 #[.val (.int px), .val (.int qx), .val (.int ox), .val (.int dx), .unset, .unset] [(.int (880 : Int32)), (.int (27 : Int32)), (.ref b2), (.ref b2)])) rfl rfl (hb hby at_177)
  replace R86 : Rep Z n0 h86 ((b2, Ar .int [(.int (0 : Int32)), (.int (57 : Int32)), (.int (58 : Int32)), (.int (59 : Int32)), (.int (64 : Int32)), (.int (65 : Int32)), (.int (90 : Int32)), (.int (91 : Int32)), (.int (94 : Int32)), (.int (95 : Int32)), (.int (96 : Int32)), (.int (97 : Int32)), (.int (122 : Int32)), (.int (123 : Int32)), (.int (127 : Int32)), (.int (128 : Int32)), (.int (191 : Int32)), (.int (192 : Int32)), (.int (214 : Int32)), (.int (215 : Int32)), (.int (216 : Int32)), (.int (246 : Int32)), (.int (247 : Int32)), (.int (248 : Int32)), (.int (767 : Int32)), (.int (768 : Int32)), (.int (879 : Int32)), (.int (880 : Int32)), (.int (0 : Int32)), (.int (0 : Int32)), (.int (0 : Int32)), (.int (0 : Int32)), (.int (0 : Int32)), (.int (0 : Int32)), (.int (0 : Int32)), (.int (0 : Int32)), (.int (0 : Int32)), (.int (0 : Int32)), (.int (0 : Int32)), (.int (0 : Int32)), (.int (0 : Int32)), (.int (0 : Int32)), (.int (0 : Int32)), (.int (0 : Int32)), (.int (0 : Int32)), (.int (0 : Int32)), (.int (0 : Int32)), (.int (0 : Int32)), (.int (0 : Int32)), (.int (0 : Int32)), (.int (0 : Int32)), (.int (0 : Int32)), (.int (0 : Int32)), (.int (0 : Int32)), (.int (0 : Int32)), (.int (0 : Int32)), (.int (0 : Int32)), (.int (0 : Int32)), (.int (0 : Int32)), (.int (0 : Int32)), (.int (0 : Int32)), (.int (0 : Int32)), (.int (0 : Int32)), (.int (0 : Int32)), (.int (0 : Int32))]) :: []) := R86
  have pre87 : ∀ t, Steps p.tables e below (T86.setTop (mkF m 178 #[.val (.int px), .val (.int qx), .val (.int ox), .val (.int dx), .unset, .unset] [(.ref b2)])) t → Steps p.tables e below (s₁.setTop (entryFrame m #[(.int px), (.int qx), (.int ox), (.int dx)] maxLocals)) t := fun t k => pre85 t (st86 t k)
  have pre88 : ∀ t, Steps p.tables e below (T86.setTop (mkF m 184 #[.val (.int px), .val (.int qx), .val (.int ox), .val (.int dx), .unset, .unset] [(.int (893 : Int32)), (.int (28 : Int32)), (.ref b2), (.ref b2)])) t → Steps p.tables e below (s₁.setTop (entryFrame m #[(.int px), (.int qx), (.int ox), (.int dx)] maxLocals)) t := fun t k => pre87 t (by
    show Steps p.tables e below (T86.setTop (mkF m 178 #[.val (.int px), .val (.int qx), .val (.int ox), .val (.int dx), .unset, .unset] [(.ref b2)])) _
    refine XS.dup X86.here hx rfl (hb hby at_178) rfl rfl ?_
    refine XS.bipush X86.here hx rfl (hb hby at_179) ?_
    refine XS.sipush X86.here hx rfl (hb hby at_181) ?_
    exact k)
  obtain ⟨T89, h89, ls89, X89, e89, N89, R89, st89⟩ := gIst X86 hx hZ e86 N86 R86 0 rfl (j := (28 : Int32)) (by decide) (28) rfl (by decide) (g := (mkF m 184 #[.val (.int px), .val (.int qx), .val (.int ox), .val (.int dx), .unset, .unset] [(.int (893 : Int32)), (.int (28 : Int32)), (.ref b2), (.ref b2)])) rfl rfl (hb hby at_184)
  replace R89 : Rep Z n0 h89 ((b2, Ar .int [(.int (0 : Int32)), (.int (57 : Int32)), (.int (58 : Int32)), (.int (59 : Int32)), (.int (64 : Int32)), (.int (65 : Int32)), (.int (90 : Int32)), (.int (91 : Int32)), (.int (94 : Int32)), (.int (95 : Int32)), (.int (96 : Int32)), (.int (97 : Int32)), (.int (122 : Int32)), (.int (123 : Int32)), (.int (127 : Int32)), (.int (128 : Int32)), (.int (191 : Int32)), (.int (192 : Int32)), (.int (214 : Int32)), (.int (215 : Int32)), (.int (216 : Int32)), (.int (246 : Int32)), (.int (247 : Int32)), (.int (248 : Int32)), (.int (767 : Int32)), (.int (768 : Int32)), (.int (879 : Int32)), (.int (880 : Int32)), (.int (893 : Int32)), (.int (0 : Int32)), (.int (0 : Int32)), (.int (0 : Int32)), (.int (0 : Int32)), (.int (0 : Int32)), (.int (0 : Int32)), (.int (0 : Int32)), (.int (0 : Int32)), (.int (0 : Int32)), (.int (0 : Int32)), (.int (0 : Int32)), (.int (0 : Int32)), (.int (0 : Int32)), (.int (0 : Int32)), (.int (0 : Int32)), (.int (0 : Int32)), (.int (0 : Int32)), (.int (0 : Int32)), (.int (0 : Int32)), (.int (0 : Int32)), (.int (0 : Int32)), (.int (0 : Int32)), (.int (0 : Int32)), (.int (0 : Int32)), (.int (0 : Int32)), (.int (0 : Int32)), (.int (0 : Int32)), (.int (0 : Int32)), (.int (0 : Int32)), (.int (0 : Int32)), (.int (0 : Int32)), (.int (0 : Int32)), (.int (0 : Int32)), (.int (0 : Int32)), (.int (0 : Int32)), (.int (0 : Int32))]) :: []) := R89
  have pre90 : ∀ t, Steps p.tables e below (T89.setTop (mkF m 185 #[.val (.int px), .val (.int qx), .val (.int ox), .val (.int dx), .unset, .unset] [(.ref b2)])) t → Steps p.tables e below (s₁.setTop (entryFrame m #[(.int px), (.int qx), (.int ox), (.int dx)] maxLocals)) t := fun t k => pre88 t (st89 t k)
  have pre91 : ∀ t, Steps p.tables e below (T89.setTop (mkF m 191 #[.val (.int px), .val (.int qx), .val (.int ox), .val (.int dx), .unset, .unset] [(.int (894 : Int32)), (.int (29 : Int32)), (.ref b2), (.ref b2)])) t → Steps p.tables e below (s₁.setTop (entryFrame m #[(.int px), (.int qx), (.int ox), (.int dx)] maxLocals)) t := fun t k => pre90 t (by
    show Steps p.tables e below (T89.setTop (mkF m 185 #[.val (.int px), .val (.int qx), .val (.int ox), .val (.int dx), .unset, .unset] [(.ref b2)])) _
    refine XS.dup X89.here hx rfl (hb hby at_185) rfl rfl ?_
    refine XS.bipush X89.here hx rfl (hb hby at_186) ?_
    refine XS.sipush X89.here hx rfl (hb hby at_188) ?_
    exact k)
  obtain ⟨T92, h92, ls92, X92, e92, N92, R92, st92⟩ := gIst X89 hx hZ e89 N89 R89 0 rfl (j := (29 : Int32)) (by decide) (29) rfl (by decide) (g := (mkF m 191 #[.val (.int px), .val (.int qx), .val (.int ox), .val (.int dx), .unset, .unset] [(.int (894 : Int32)), (.int (29 : Int32)), (.ref b2), (.ref b2)])) rfl rfl (hb hby at_191)
  replace R92 : Rep Z n0 h92 ((b2, Ar .int [(.int (0 : Int32)), (.int (57 : Int32)), (.int (58 : Int32)), (.int (59 : Int32)), (.int (64 : Int32)), (.int (65 : Int32)), (.int (90 : Int32)), (.int (91 : Int32)), (.int (94 : Int32)), (.int (95 : Int32)), (.int (96 : Int32)), (.int (97 : Int32)), (.int (122 : Int32)), (.int (123 : Int32)), (.int (127 : Int32)), (.int (128 : Int32)), (.int (191 : Int32)), (.int (192 : Int32)), (.int (214 : Int32)), (.int (215 : Int32)), (.int (216 : Int32)), (.int (246 : Int32)), (.int (247 : Int32)), (.int (248 : Int32)), (.int (767 : Int32)), (.int (768 : Int32)), (.int (879 : Int32)), (.int (880 : Int32)), (.int (893 : Int32)), (.int (894 : Int32)), (.int (0 : Int32)), (.int (0 : Int32)), (.int (0 : Int32)), (.int (0 : Int32)), (.int (0 : Int32)), (.int (0 : Int32)), (.int (0 : Int32)), (.int (0 : Int32)), (.int (0 : Int32)), (.int (0 : Int32)), (.int (0 : Int32)), (.int (0 : Int32)), (.int (0 : Int32)), (.int (0 : Int32)), (.int (0 : Int32)), (.int (0 : Int32)), (.int (0 : Int32)), (.int (0 : Int32)), (.int (0 : Int32)), (.int (0 : Int32)), (.int (0 : Int32)), (.int (0 : Int32)), (.int (0 : Int32)), (.int (0 : Int32)), (.int (0 : Int32)), (.int (0 : Int32)), (.int (0 : Int32)), (.int (0 : Int32)), (.int (0 : Int32)), (.int (0 : Int32)), (.int (0 : Int32)), (.int (0 : Int32)), (.int (0 : Int32)), (.int (0 : Int32)), (.int (0 : Int32))]) :: []) := R92
  have pre93 : ∀ t, Steps p.tables e below (T92.setTop (mkF m 192 #[.val (.int px), .val (.int qx), .val (.int ox), .val (.int dx), .unset, .unset] [(.ref b2)])) t → Steps p.tables e below (s₁.setTop (entryFrame m #[(.int px), (.int qx), (.int ox), (.int dx)] maxLocals)) t := fun t k => pre91 t (st92 t k)
  have pre94 : ∀ t, Steps p.tables e below (T92.setTop (mkF m 198 #[.val (.int px), .val (.int qx), .val (.int ox), .val (.int dx), .unset, .unset] [(.int (895 : Int32)), (.int (30 : Int32)), (.ref b2), (.ref b2)])) t → Steps p.tables e below (s₁.setTop (entryFrame m #[(.int px), (.int qx), (.int ox), (.int dx)] maxLocals)) t := fun t k => pre93 t (by
    show Steps p.tables e below (T92.setTop (mkF m 192 #[.val (.int px), .val (.int qx), .val (.int ox), .val (.int dx), .unset, .unset] [(.ref b2)])) _
    refine XS.dup X92.here hx rfl (hb hby at_192) rfl rfl ?_
    refine XS.bipush X92.here hx rfl (hb hby at_193) ?_
    refine XS.sipush X92.here hx rfl (hb hby at_195) ?_
    exact k)
  obtain ⟨T95, h95, ls95, X95, e95, N95, R95, st95⟩ := gIst X92 hx hZ e92 N92 R92 0 rfl (j := (30 : Int32)) (by decide) (30) rfl (by decide) (g := (mkF m 198 #[.val (.int px), .val (.int qx), .val (.int ox), .val (.int dx), .unset, .unset] [(.int (895 : Int32)), (.int (30 : Int32)), (.ref b2), (.ref b2)])) rfl rfl (hb hby at_198)
  replace R95 : Rep Z n0 h95 ((b2, Ar .int [(.int (0 : Int32)), (.int (57 : Int32)), (.int (58 : Int32)), (.int (59 : Int32)), (.int (64 : Int32)), (.int (65 : Int32)), (.int (90 : Int32)), (.int (91 : Int32)), (.int (94 : Int32)), (.int (95 : Int32)), (.int (96 : Int32)), (.int (97 : Int32)), (.int (122 : Int32)), (.int (123 : Int32)), (.int (127 : Int32)), (.int (128 : Int32)), (.int (191 : Int32)), (.int (192 : Int32)), (.int (214 : Int32)), (.int (215 : Int32)), (.int (216 : Int32)), (.int (246 : Int32)), (.int (247 : Int32)), (.int (248 : Int32)), (.int (767 : Int32)), (.int (768 : Int32)), (.int (879 : Int32)), (.int (880 : Int32)), (.int (893 : Int32)), (.int (894 : Int32)), (.int (895 : Int32)), (.int (0 : Int32)), (.int (0 : Int32)), (.int (0 : Int32)), (.int (0 : Int32)), (.int (0 : Int32)), (.int (0 : Int32)), (.int (0 : Int32)), (.int (0 : Int32)), (.int (0 : Int32)), (.int (0 : Int32)), (.int (0 : Int32)), (.int (0 : Int32)), (.int (0 : Int32)), (.int (0 : Int32)), (.int (0 : Int32)), (.int (0 : Int32)), (.int (0 : Int32)), (.int (0 : Int32)), (.int (0 : Int32)), (.int (0 : Int32)), (.int (0 : Int32)), (.int (0 : Int32)), (.int (0 : Int32)), (.int (0 : Int32)), (.int (0 : Int32)), (.int (0 : Int32)), (.int (0 : Int32)), (.int (0 : Int32)), (.int (0 : Int32)), (.int (0 : Int32)), (.int (0 : Int32)), (.int (0 : Int32)), (.int (0 : Int32)), (.int (0 : Int32))]) :: []) := R95
  have pre96 : ∀ t, Steps p.tables e below (T95.setTop (mkF m 199 #[.val (.int px), .val (.int qx), .val (.int ox), .val (.int dx), .unset, .unset] [(.ref b2)])) t → Steps p.tables e below (s₁.setTop (entryFrame m #[(.int px), (.int qx), (.int ox), (.int dx)] maxLocals)) t := fun t k => pre94 t (st95 t k)
  have pre97 : ∀ t, Steps p.tables e below (T95.setTop (mkF m 205 #[.val (.int px), .val (.int qx), .val (.int ox), .val (.int dx), .unset, .unset] [(.int (8191 : Int32)), (.int (31 : Int32)), (.ref b2), (.ref b2)])) t → Steps p.tables e below (s₁.setTop (entryFrame m #[(.int px), (.int qx), (.int ox), (.int dx)] maxLocals)) t := fun t k => pre96 t (by
    show Steps p.tables e below (T95.setTop (mkF m 199 #[.val (.int px), .val (.int qx), .val (.int ox), .val (.int dx), .unset, .unset] [(.ref b2)])) _
    refine XS.dup X95.here hx rfl (hb hby at_199) rfl rfl ?_
    refine XS.bipush X95.here hx rfl (hb hby at_200) ?_
    refine XS.sipush X95.here hx rfl (hb hby at_202) ?_
    exact k)
  obtain ⟨T98, h98, ls98, X98, e98, N98, R98, st98⟩ := gIst X95 hx hZ e95 N95 R95 0 rfl (j := (31 : Int32)) (by decide) (31) rfl (by decide) (g := (mkF m 205 #[.val (.int px), .val (.int qx), .val (.int ox), .val (.int dx), .unset, .unset] [(.int (8191 : Int32)), (.int (31 : Int32)), (.ref b2), (.ref b2)])) rfl rfl (hb hby at_205)
  replace R98 : Rep Z n0 h98 ((b2, Ar .int [(.int (0 : Int32)), (.int (57 : Int32)), (.int (58 : Int32)), (.int (59 : Int32)), (.int (64 : Int32)), (.int (65 : Int32)), (.int (90 : Int32)), (.int (91 : Int32)), (.int (94 : Int32)), (.int (95 : Int32)), (.int (96 : Int32)), (.int (97 : Int32)), (.int (122 : Int32)), (.int (123 : Int32)), (.int (127 : Int32)), (.int (128 : Int32)), (.int (191 : Int32)), (.int (192 : Int32)), (.int (214 : Int32)), (.int (215 : Int32)), (.int (216 : Int32)), (.int (246 : Int32)), (.int (247 : Int32)), (.int (248 : Int32)), (.int (767 : Int32)), (.int (768 : Int32)), (.int (879 : Int32)), (.int (880 : Int32)), (.int (893 : Int32)), (.int (894 : Int32)), (.int (895 : Int32)), (.int (8191 : Int32)), (.int (0 : Int32)), (.int (0 : Int32)), (.int (0 : Int32)), (.int (0 : Int32)), (.int (0 : Int32)), (.int (0 : Int32)), (.int (0 : Int32)), (.int (0 : Int32)), (.int (0 : Int32)), (.int (0 : Int32)), (.int (0 : Int32)), (.int (0 : Int32)), (.int (0 : Int32)), (.int (0 : Int32)), (.int (0 : Int32)), (.int (0 : Int32)), (.int (0 : Int32)), (.int (0 : Int32)), (.int (0 : Int32)), (.int (0 : Int32)), (.int (0 : Int32)), (.int (0 : Int32)), (.int (0 : Int32)), (.int (0 : Int32)), (.int (0 : Int32)), (.int (0 : Int32)), (.int (0 : Int32)), (.int (0 : Int32)), (.int (0 : Int32)), (.int (0 : Int32)), (.int (0 : Int32)), (.int (0 : Int32)), (.int (0 : Int32))]) :: []) := R98
  have pre99 : ∀ t, Steps p.tables e below (T98.setTop (mkF m 206 #[.val (.int px), .val (.int qx), .val (.int ox), .val (.int dx), .unset, .unset] [(.ref b2)])) t → Steps p.tables e below (s₁.setTop (entryFrame m #[(.int px), (.int qx), (.int ox), (.int dx)] maxLocals)) t := fun t k => pre97 t (st98 t k)
  have pre100 : ∀ t, Steps p.tables e below (T98.setTop (mkF m 212 #[.val (.int px), .val (.int qx), .val (.int ox), .val (.int dx), .unset, .unset] [(.int (8192 : Int32)), (.int (32 : Int32)), (.ref b2), (.ref b2)])) t → Steps p.tables e below (s₁.setTop (entryFrame m #[(.int px), (.int qx), (.int ox), (.int dx)] maxLocals)) t := fun t k => pre99 t (by
    show Steps p.tables e below (T98.setTop (mkF m 206 #[.val (.int px), .val (.int qx), .val (.int ox), .val (.int dx), .unset, .unset] [(.ref b2)])) _
    refine XS.dup X98.here hx rfl (hb hby at_206) rfl rfl ?_
    refine XS.bipush X98.here hx rfl (hb hby at_207) ?_
    refine XS.sipush X98.here hx rfl (hb hby at_209) ?_
    exact k)
  obtain ⟨T101, h101, ls101, X101, e101, N101, R101, st101⟩ := gIst X98 hx hZ e98 N98 R98 0 rfl (j := (32 : Int32)) (by decide) (32) rfl (by decide) (g := (mkF m 212 #[.val (.int px), .val (.int qx), .val (.int ox), .val (.int dx), .unset, .unset] [(.int (8192 : Int32)), (.int (32 : Int32)), (.ref b2), (.ref b2)])) rfl rfl (hb hby at_212)
  replace R101 : Rep Z n0 h101 ((b2, Ar .int [(.int (0 : Int32)), (.int (57 : Int32)), (.int (58 : Int32)), (.int (59 : Int32)), (.int (64 : Int32)), (.int (65 : Int32)), (.int (90 : Int32)), (.int (91 : Int32)), (.int (94 : Int32)), (.int (95 : Int32)), (.int (96 : Int32)), (.int (97 : Int32)), (.int (122 : Int32)), (.int (123 : Int32)), (.int (127 : Int32)), (.int (128 : Int32)), (.int (191 : Int32)), (.int (192 : Int32)), (.int (214 : Int32)), (.int (215 : Int32)), (.int (216 : Int32)), (.int (246 : Int32)), (.int (247 : Int32)), (.int (248 : Int32)), (.int (767 : Int32)), (.int (768 : Int32)), (.int (879 : Int32)), (.int (880 : Int32)), (.int (893 : Int32)), (.int (894 : Int32)), (.int (895 : Int32)), (.int (8191 : Int32)), (.int (8192 : Int32)), (.int (0 : Int32)), (.int (0 : Int32)), (.int (0 : Int32)), (.int (0 : Int32)), (.int (0 : Int32)), (.int (0 : Int32)), (.int (0 : Int32)), (.int (0 : Int32)), (.int (0 : Int32)), (.int (0 : Int32)), (.int (0 : Int32)), (.int (0 : Int32)), (.int (0 : Int32)), (.int (0 : Int32)), (.int (0 : Int32)), (.int (0 : Int32)), (.int (0 : Int32)), (.int (0 : Int32)), (.int (0 : Int32)), (.int (0 : Int32)), (.int (0 : Int32)), (.int (0 : Int32)), (.int (0 : Int32)), (.int (0 : Int32)), (.int (0 : Int32)), (.int (0 : Int32)), (.int (0 : Int32)), (.int (0 : Int32)), (.int (0 : Int32)), (.int (0 : Int32)), (.int (0 : Int32)), (.int (0 : Int32))]) :: []) := R101
  have pre102 : ∀ t, Steps p.tables e below (T101.setTop (mkF m 213 #[.val (.int px), .val (.int qx), .val (.int ox), .val (.int dx), .unset, .unset] [(.ref b2)])) t → Steps p.tables e below (s₁.setTop (entryFrame m #[(.int px), (.int qx), (.int ox), (.int dx)] maxLocals)) t := fun t k => pre100 t (st101 t k)
  have pre103 : ∀ t, Steps p.tables e below (T101.setTop (mkF m 219 #[.val (.int px), .val (.int qx), .val (.int ox), .val (.int dx), .unset, .unset] [(.int (8203 : Int32)), (.int (33 : Int32)), (.ref b2), (.ref b2)])) t → Steps p.tables e below (s₁.setTop (entryFrame m #[(.int px), (.int qx), (.int ox), (.int dx)] maxLocals)) t := fun t k => pre102 t (by
    show Steps p.tables e below (T101.setTop (mkF m 213 #[.val (.int px), .val (.int qx), .val (.int ox), .val (.int dx), .unset, .unset] [(.ref b2)])) _
    refine XS.dup X101.here hx rfl (hb hby at_213) rfl rfl ?_
    refine XS.bipush X101.here hx rfl (hb hby at_214) ?_
    refine XS.sipush X101.here hx rfl (hb hby at_216) ?_
    exact k)
  obtain ⟨T104, h104, ls104, X104, e104, N104, R104, st104⟩ := gIst X101 hx hZ e101 N101 R101 0 rfl (j := (33 : Int32)) (by decide) (33) rfl (by decide) (g := (mkF m 219 #[.val (.int px), .val (.int qx), .val (.int ox), .val (.int dx), .unset, .unset] [(.int (8203 : Int32)), (.int (33 : Int32)), (.ref b2), (.ref b2)])) rfl rfl (hb hby at_219)
  replace R104 : Rep Z n0 h104 ((b2, Ar .int [(.int (0 : Int32)), (.int (57 : Int32)), (.int (58 : Int32)), (.int (59 : Int32)), (.int (64 : Int32)), (.int (65 : Int32)), (.int (90 : Int32)), (.int (91 : Int32)), (.int (94 : Int32)), (.int (95 : Int32)), (.int (96 : Int32)), (.int (97 : Int32)), (.int (122 : Int32)), (.int (123 : Int32)), (.int (127 : Int32)), (.int (128 : Int32)), (.int (191 : Int32)), (.int (192 : Int32)), (.int (214 : Int32)), (.int (215 : Int32)), (.int (216 : Int32)), (.int (246 : Int32)), (.int (247 : Int32)), (.int (248 : Int32)), (.int (767 : Int32)), (.int (768 : Int32)), (.int (879 : Int32)), (.int (880 : Int32)), (.int (893 : Int32)), (.int (894 : Int32)), (.int (895 : Int32)), (.int (8191 : Int32)), (.int (8192 : Int32)), (.int (8203 : Int32)), (.int (0 : Int32)), (.int (0 : Int32)), (.int (0 : Int32)), (.int (0 : Int32)), (.int (0 : Int32)), (.int (0 : Int32)), (.int (0 : Int32)), (.int (0 : Int32)), (.int (0 : Int32)), (.int (0 : Int32)), (.int (0 : Int32)), (.int (0 : Int32)), (.int (0 : Int32)), (.int (0 : Int32)), (.int (0 : Int32)), (.int (0 : Int32)), (.int (0 : Int32)), (.int (0 : Int32)), (.int (0 : Int32)), (.int (0 : Int32)), (.int (0 : Int32)), (.int (0 : Int32)), (.int (0 : Int32)), (.int (0 : Int32)), (.int (0 : Int32)), (.int (0 : Int32)), (.int (0 : Int32)), (.int (0 : Int32)), (.int (0 : Int32)), (.int (0 : Int32)), (.int (0 : Int32))]) :: []) := R104
  have pre105 : ∀ t, Steps p.tables e below (T104.setTop (mkF m 220 #[.val (.int px), .val (.int qx), .val (.int ox), .val (.int dx), .unset, .unset] [(.ref b2)])) t → Steps p.tables e below (s₁.setTop (entryFrame m #[(.int px), (.int qx), (.int ox), (.int dx)] maxLocals)) t := fun t k => pre103 t (st104 t k)
  have pre106 : ∀ t, Steps p.tables e below (T104.setTop (mkF m 226 #[.val (.int px), .val (.int qx), .val (.int ox), .val (.int dx), .unset, .unset] [(.int (8204 : Int32)), (.int (34 : Int32)), (.ref b2), (.ref b2)])) t → Steps p.tables e below (s₁.setTop (entryFrame m #[(.int px), (.int qx), (.int ox), (.int dx)] maxLocals)) t := fun t k => pre105 t (by
    show Steps p.tables e below (T104.setTop (mkF m 220 #[.val (.int px), .val (.int qx), .val (.int ox), .val (.int dx), .unset, .unset] [(.ref b2)])) _
    refine XS.dup X104.here hx rfl (hb hby at_220) rfl rfl ?_
    refine XS.bipush X104.here hx rfl (hb hby at_221) ?_
    refine XS.sipush X104.here hx rfl (hb hby at_223) ?_
    exact k)
  obtain ⟨T107, h107, ls107, X107, e107, N107, R107, st107⟩ := gIst X104 hx hZ e104 N104 R104 0 rfl (j := (34 : Int32)) (by decide) (34) rfl (by decide) (g := (mkF m 226 #[.val (.int px), .val (.int qx), .val (.int ox), .val (.int dx), .unset, .unset] [(.int (8204 : Int32)), (.int (34 : Int32)), (.ref b2), (.ref b2)])) rfl rfl (hb hby at_226)
  replace R107 : Rep Z n0 h107 ((b2, Ar .int [(.int (0 : Int32)), (.int (57 : Int32)), (.int (58 : Int32)), (.int (59 : Int32)), (.int (64 : Int32)), (.int (65 : Int32)), (.int (90 : Int32)), (.int (91 : Int32)), (.int (94 : Int32)), (.int (95 : Int32)), (.int (96 : Int32)), (.int (97 : Int32)), (.int (122 : Int32)), (.int (123 : Int32)), (.int (127 : Int32)), (.int (128 : Int32)), (.int (191 : Int32)), (.int (192 : Int32)), (.int (214 : Int32)), (.int (215 : Int32)), (.int (216 : Int32)), (.int (246 : Int32)), (.int (247 : Int32)), (.int (248 : Int32)), (.int (767 : Int32)), (.int (768 : Int32)), (.int (879 : Int32)), (.int (880 : Int32)), (.int (893 : Int32)), (.int (894 : Int32)), (.int (895 : Int32)), (.int (8191 : Int32)), (.int (8192 : Int32)), (.int (8203 : Int32)), (.int (8204 : Int32)), (.int (0 : Int32)), (.int (0 : Int32)), (.int (0 : Int32)), (.int (0 : Int32)), (.int (0 : Int32)), (.int (0 : Int32)), (.int (0 : Int32)), (.int (0 : Int32)), (.int (0 : Int32)), (.int (0 : Int32)), (.int (0 : Int32)), (.int (0 : Int32)), (.int (0 : Int32)), (.int (0 : Int32)), (.int (0 : Int32)), (.int (0 : Int32)), (.int (0 : Int32)), (.int (0 : Int32)), (.int (0 : Int32)), (.int (0 : Int32)), (.int (0 : Int32)), (.int (0 : Int32)), (.int (0 : Int32)), (.int (0 : Int32)), (.int (0 : Int32)), (.int (0 : Int32)), (.int (0 : Int32)), (.int (0 : Int32)), (.int (0 : Int32)), (.int (0 : Int32))]) :: []) := R107
  have pre108 : ∀ t, Steps p.tables e below (T107.setTop (mkF m 227 #[.val (.int px), .val (.int qx), .val (.int ox), .val (.int dx), .unset, .unset] [(.ref b2)])) t → Steps p.tables e below (s₁.setTop (entryFrame m #[(.int px), (.int qx), (.int ox), (.int dx)] maxLocals)) t := fun t k => pre106 t (st107 t k)
  have pre109 : ∀ t, Steps p.tables e below (T107.setTop (mkF m 233 #[.val (.int px), .val (.int qx), .val (.int ox), .val (.int dx), .unset, .unset] [(.int (8205 : Int32)), (.int (35 : Int32)), (.ref b2), (.ref b2)])) t → Steps p.tables e below (s₁.setTop (entryFrame m #[(.int px), (.int qx), (.int ox), (.int dx)] maxLocals)) t := fun t k => pre108 t (by
    show Steps p.tables e below (T107.setTop (mkF m 227 #[.val (.int px), .val (.int qx), .val (.int ox), .val (.int dx), .unset, .unset] [(.ref b2)])) _
    refine XS.dup X107.here hx rfl (hb hby at_227) rfl rfl ?_
    refine XS.bipush X107.here hx rfl (hb hby at_228) ?_
    refine XS.sipush X107.here hx rfl (hb hby at_230) ?_
    exact k)
  obtain ⟨T110, h110, ls110, X110, e110, N110, R110, st110⟩ := gIst X107 hx hZ e107 N107 R107 0 rfl (j := (35 : Int32)) (by decide) (35) rfl (by decide) (g := (mkF m 233 #[.val (.int px), .val (.int qx), .val (.int ox), .val (.int dx), .unset, .unset] [(.int (8205 : Int32)), (.int (35 : Int32)), (.ref b2), (.ref b2)])) rfl rfl (hb hby at_233)
  replace R110 : Rep Z n0 h110 ((b2, Ar .int [(.int (0 : Int32)), (.int (57 : Int32)), (.int (58 : Int32)), (.int (59 : Int32)), (.int (64 : Int32)), (.int (65 : Int32)), (.int (90 : Int32)), (.int (91 : Int32)), (.int (94 : Int32)), (.int (95 : Int32)), (.int (96 : Int32)), (.int (97 : Int32)), (.int (122 : Int32)), (.int (123 : Int32)), (.int (127 : Int32)), (.int (128 : Int32)), (.int (191 : Int32)), (.int (192 : Int32)), (.int (214 : Int32)), (.int (215 : Int32)), (.int (216 : Int32)), (.int (246 : Int32)), (.int (247 : Int32)), (.int (248 : Int32)), (.int (767 : Int32)), (.int (768 : Int32)), (.int (879 : Int32)), (.int (880 : Int32)), (.int (893 : Int32)), (.int (894 : Int32)), (.int (895 : Int32)), (.int (8191 : Int32)), (.int (8192 : Int32)), (.int (8203 : Int32)), (.int (8204 : Int32)), (.int (8205 : Int32)), (.int (0 : Int32)), (.int (0 : Int32)), (.int (0 : Int32)), (.int (0 : Int32)), (.int (0 : Int32)), (.int (0 : Int32)), (.int (0 : Int32)), (.int (0 : Int32)), (.int (0 : Int32)), (.int (0 : Int32)), (.int (0 : Int32)), (.int (0 : Int32)), (.int (0 : Int32)), (.int (0 : Int32)), (.int (0 : Int32)), (.int (0 : Int32)), (.int (0 : Int32)), (.int (0 : Int32)), (.int (0 : Int32)), (.int (0 : Int32)), (.int (0 : Int32)), (.int (0 : Int32)), (.int (0 : Int32)), (.int (0 : Int32)), (.int (0 : Int32)), (.int (0 : Int32)), (.int (0 : Int32)), (.int (0 : Int32)), (.int (0 : Int32))]) :: []) := R110
  have pre111 : ∀ t, Steps p.tables e below (T110.setTop (mkF m 234 #[.val (.int px), .val (.int qx), .val (.int ox), .val (.int dx), .unset, .unset] [(.ref b2)])) t → Steps p.tables e below (s₁.setTop (entryFrame m #[(.int px), (.int qx), (.int ox), (.int dx)] maxLocals)) t := fun t k => pre109 t (st110 t k)
  have pre112 : ∀ t, Steps p.tables e below (T110.setTop (mkF m 240 #[.val (.int px), .val (.int qx), .val (.int ox), .val (.int dx), .unset, .unset] [(.int (8206 : Int32)), (.int (36 : Int32)), (.ref b2), (.ref b2)])) t → Steps p.tables e below (s₁.setTop (entryFrame m #[(.int px), (.int qx), (.int ox), (.int dx)] maxLocals)) t := fun t k => pre111 t (by
    show Steps p.tables e below (T110.setTop (mkF m 234 #[.val (.int px), .val (.int qx), .val (.int ox), .val (.int dx), .unset, .unset] [(.ref b2)])) _
    refine XS.dup X110.here hx rfl (hb hby at_234) rfl rfl ?_
    refine XS.bipush X110.here hx rfl (hb hby at_235) ?_
    refine XS.sipush X110.here hx rfl (hb hby at_237) ?_
    exact k)
  obtain ⟨T113, h113, ls113, X113, e113, N113, R113, st113⟩ := gIst X110 hx hZ e110 N110 R110 0 rfl (j := (36 : Int32)) (by decide) (36) rfl (by decide) (g := (mkF m 240 #[.val (.int px), .val (.int qx), .val (.int ox), .val (.int dx), .unset, .unset] [(.int (8206 : Int32)), (.int (36 : Int32)), (.ref b2), (.ref b2)])) rfl rfl (hb hby at_240)
  replace R113 : Rep Z n0 h113 ((b2, Ar .int [(.int (0 : Int32)), (.int (57 : Int32)), (.int (58 : Int32)), (.int (59 : Int32)), (.int (64 : Int32)), (.int (65 : Int32)), (.int (90 : Int32)), (.int (91 : Int32)), (.int (94 : Int32)), (.int (95 : Int32)), (.int (96 : Int32)), (.int (97 : Int32)), (.int (122 : Int32)), (.int (123 : Int32)), (.int (127 : Int32)), (.int (128 : Int32)), (.int (191 : Int32)), (.int (192 : Int32)), (.int (214 : Int32)), (.int (215 : Int32)), (.int (216 : Int32)), (.int (246 : Int32)), (.int (247 : Int32)), (.int (248 : Int32)), (.int (767 : Int32)), (.int (768 : Int32)), (.int (879 : Int32)), (.int (880 : Int32)), (.int (893 : Int32)), (.int (894 : Int32)), (.int (895 : Int32)), (.int (8191 : Int32)), (.int (8192 : Int32)), (.int (8203 : Int32)), (.int (8204 : Int32)), (.int (8205 : Int32)), (.int (8206 : Int32)), (.int (0 : Int32)), (.int (0 : Int32)), (.int (0 : Int32)), (.int (0 : Int32)), (.int (0 : Int32)), (.int (0 : Int32)), (.int (0 : Int32)), (.int (0 : Int32)), (.int (0 : Int32)), (.int (0 : Int32)), (.int (0 : Int32)), (.int (0 : Int32)), (.int (0 : Int32)), (.int (0 : Int32)), (.int (0 : Int32)), (.int (0 : Int32)), (.int (0 : Int32)), (.int (0 : Int32)), (.int (0 : Int32)), (.int (0 : Int32)), (.int (0 : Int32)), (.int (0 : Int32)), (.int (0 : Int32)), (.int (0 : Int32)), (.int (0 : Int32)), (.int (0 : Int32)), (.int (0 : Int32)), (.int (0 : Int32))]) :: []) := R113
  have pre114 : ∀ t, Steps p.tables e below (T113.setTop (mkF m 241 #[.val (.int px), .val (.int qx), .val (.int ox), .val (.int dx), .unset, .unset] [(.ref b2)])) t → Steps p.tables e below (s₁.setTop (entryFrame m #[(.int px), (.int qx), (.int ox), (.int dx)] maxLocals)) t := fun t k => pre112 t (st113 t k)
  have pre115 : ∀ t, Steps p.tables e below (T113.setTop (mkF m 247 #[.val (.int px), .val (.int qx), .val (.int ox), .val (.int dx), .unset, .unset] [(.int (8303 : Int32)), (.int (37 : Int32)), (.ref b2), (.ref b2)])) t → Steps p.tables e below (s₁.setTop (entryFrame m #[(.int px), (.int qx), (.int ox), (.int dx)] maxLocals)) t := fun t k => pre114 t (by
    show Steps p.tables e below (T113.setTop (mkF m 241 #[.val (.int px), .val (.int qx), .val (.int ox), .val (.int dx), .unset, .unset] [(.ref b2)])) _
    refine XS.dup X113.here hx rfl (hb hby at_241) rfl rfl ?_
    refine XS.bipush X113.here hx rfl (hb hby at_242) ?_
    refine XS.sipush X113.here hx rfl (hb hby at_244) ?_
    exact k)
  obtain ⟨T116, h116, ls116, X116, e116, N116, R116, st116⟩ := gIst X113 hx hZ e113 N113 R113 0 rfl (j := (37 : Int32)) (by decide) (37) rfl (by decide) (g := (mkF m 247 #[.val (.int px), .val (.int qx), .val (.int ox), .val (.int dx), .unset, .unset] [(.int (8303 : Int32)), (.int (37 : Int32)), (.ref b2), (.ref b2)])) rfl rfl (hb hby at_247)
  replace R116 : Rep Z n0 h116 ((b2, Ar .int [(.int (0 : Int32)), (.int (57 : Int32)), (.int (58 : Int32)), (.int (59 : Int32)), (.int (64 : Int32)), (.int (65 : Int32)), (.int (90 : Int32)), (.int (91 : Int32)), (.int (94 : Int32)), (.int (95 : Int32)), (.int (96 : Int32)), (.int (97 : Int32)), (.int (122 : Int32)), (.int (123 : Int32)), (.int (127 : Int32)), (.int (128 : Int32)), (.int (191 : Int32)), (.int (192 : Int32)), (.int (214 : Int32)), (.int (215 : Int32)), (.int (216 : Int32)), (.int (246 : Int32)), (.int (247 : Int32)), (.int (248 : Int32)), (.int (767 : Int32)), (.int (768 : Int32)), (.int (879 : Int32)), (.int (880 : Int32)), (.int (893 : Int32)), (.int (894 : Int32)), (.int (895 : Int32)), (.int (8191 : Int32)), (.int (8192 : Int32)), (.int (8203 : Int32)), (.int (8204 : Int32)), (.int (8205 : Int32)), (.int (8206 : Int32)), (.int (8303 : Int32)), (.int (0 : Int32)), (.int (0 : Int32)), (.int (0 : Int32)), (.int (0 : Int32)), (.int (0 : Int32)), (.int (0 : Int32)), (.int (0 : Int32)), (.int (0 : Int32)), (.int (0 : Int32)), (.int (0 : Int32)), (.int (0 : Int32)), (.int (0 : Int32)), (.int (0 : Int32)), (.int (0 : Int32)), (.int (0 : Int32)), (.int (0 : Int32)), (.int (0 : Int32)), (.int (0 : Int32)), (.int (0 : Int32)), (.int (0 : Int32)), (.int (0 : Int32)), (.int (0 : Int32)), (.int (0 : Int32)), (.int (0 : Int32)), (.int (0 : Int32)), (.int (0 : Int32)), (.int (0 : Int32))]) :: []) := R116
  have pre117 : ∀ t, Steps p.tables e below (T116.setTop (mkF m 248 #[.val (.int px), .val (.int qx), .val (.int ox), .val (.int dx), .unset, .unset] [(.ref b2)])) t → Steps p.tables e below (s₁.setTop (entryFrame m #[(.int px), (.int qx), (.int ox), (.int dx)] maxLocals)) t := fun t k => pre115 t (st116 t k)
  have pre118 : ∀ t, Steps p.tables e below (T116.setTop (mkF m 254 #[.val (.int px), .val (.int qx), .val (.int ox), .val (.int dx), .unset, .unset] [(.int (8304 : Int32)), (.int (38 : Int32)), (.ref b2), (.ref b2)])) t → Steps p.tables e below (s₁.setTop (entryFrame m #[(.int px), (.int qx), (.int ox), (.int dx)] maxLocals)) t := fun t k => pre117 t (by
    show Steps p.tables e below (T116.setTop (mkF m 248 #[.val (.int px), .val (.int qx), .val (.int ox), .val (.int dx), .unset, .unset] [(.ref b2)])) _
    refine XS.dup X116.here hx rfl (hb hby at_248) rfl rfl ?_
    refine XS.bipush X116.here hx rfl (hb hby at_249) ?_
    refine XS.sipush X116.here hx rfl (hb hby at_251) ?_
    exact k)
  obtain ⟨T119, h119, ls119, X119, e119, N119, R119, st119⟩ := gIst X116 hx hZ e116 N116 R116 0 rfl (j := (38 : Int32)) (by decide) (38) rfl (by decide) (g := (mkF m 254 #[.val (.int px), .val (.int qx), .val (.int ox), .val (.int dx), .unset, .unset] [(.int (8304 : Int32)), (.int (38 : Int32)), (.ref b2), (.ref b2)])) rfl rfl (hb hby at_254)
  replace R119 : Rep Z n0 h119 ((b2, Ar .int [(.int (0 : Int32)), (.int (57 : Int32)), (.int (58 : Int32)), (.int (59 : Int32)), (.int (64 : Int32)), (.int (65 : Int32)), (.int (90 : Int32)), (.int (91 : Int32)), (.int (94 : Int32)), (.int (95 : Int32)), (.int (96 : Int32)), (.int (97 : Int32)), (.int (122 : Int32)), (.int (123 : Int32)), (.int (127 : Int32)), (.int (128 : Int32)), (.int (191 : Int32)), (.int (192 : Int32)), (.int (214 : Int32)), (.int (215 : Int32)), (.int (216 : Int32)), (.int (246 : Int32)), (.int (247 : Int32)), (.int (248 : Int32)), (.int (767 : Int32)), (.int (768 : Int32)), (.int (879 : Int32)), (.int (880 : Int32)), (.int (893 : Int32)), (.int (894 : Int32)), (.int (895 : Int32)), (.int (8191 : Int32)), (.int (8192 : Int32)), (.int (8203 : Int32)), (.int (8204 : Int32)), (.int (8205 : Int32)), (.int (8206 : Int32)), (.int (8303 : Int32)), (.int (8304 : Int32)), (.int (0 : Int32)), (.int (0 : Int32)), (.int (0 : Int32)), (.int (0 : Int32)), (.int (0 : Int32)), (.int (0 : Int32)), (.int (0 : Int32)), (.int (0 : Int32)), (.int (0 : Int32)), (.int (0 : Int32)), (.int (0 : Int32)), (.int (0 : Int32)), (.int (0 : Int32)), (.int (0 : Int32)), (.int (0 : Int32)), (.int (0 : Int32)), (.int (0 : Int32)), (.int (0 : Int32)), (.int (0 : Int32)), (.int (0 : Int32)), (.int (0 : Int32)), (.int (0 : Int32)), (.int (0 : Int32)), (.int (0 : Int32)), (.int (0 : Int32)), (.int (0 : Int32))]) :: []) := R119
  have pre120 : ∀ t, Steps p.tables e below (T119.setTop (mkF m 255 #[.val (.int px), .val (.int qx), .val (.int ox), .val (.int dx), .unset, .unset] [(.ref b2)])) t → Steps p.tables e below (s₁.setTop (entryFrame m #[(.int px), (.int qx), (.int ox), (.int dx)] maxLocals)) t := fun t k => pre118 t (st119 t k)
  have pre121 : ∀ t, Steps p.tables e below (T119.setTop (mkF m 261 #[.val (.int px), .val (.int qx), .val (.int ox), .val (.int dx), .unset, .unset] [(.int (8591 : Int32)), (.int (39 : Int32)), (.ref b2), (.ref b2)])) t → Steps p.tables e below (s₁.setTop (entryFrame m #[(.int px), (.int qx), (.int ox), (.int dx)] maxLocals)) t := fun t k => pre120 t (by
    show Steps p.tables e below (T119.setTop (mkF m 255 #[.val (.int px), .val (.int qx), .val (.int ox), .val (.int dx), .unset, .unset] [(.ref b2)])) _
    refine XS.dup X119.here hx rfl (hb hby at_255) rfl rfl ?_
    refine XS.bipush X119.here hx rfl (hb hby at_256) ?_
    refine XS.sipush X119.here hx rfl (hb hby at_258) ?_
    exact k)
  obtain ⟨T122, h122, ls122, X122, e122, N122, R122, st122⟩ := gIst X119 hx hZ e119 N119 R119 0 rfl (j := (39 : Int32)) (by decide) (39) rfl (by decide) (g := (mkF m 261 #[.val (.int px), .val (.int qx), .val (.int ox), .val (.int dx), .unset, .unset] [(.int (8591 : Int32)), (.int (39 : Int32)), (.ref b2), (.ref b2)])) rfl rfl (hb hby at_261)
  replace R122 : Rep Z n0 h122 ((b2, Ar .int [(.int (0 : Int32)), (.int (57 : Int32)), (.int (58 : Int32)), (.int (59 : Int32)), (.int (64 : Int32)), (.int (65 : Int32)), (.int (90 : Int32)), (.int (91 : Int32)), (.int (94 : Int32)), (.int (95 : Int32)), (.int (96 : Int32)), (.int (97 : Int32)), (.int (122 : Int32)), (.int (123 : Int32)), (.int (127 : Int32)), (.int (128 : Int32)), (.int (191 : Int32)), (.int (192 : Int32)), (.int (214 : Int32)), (.int (215 : Int32)), (.int (216 : Int32)), (.int (246 : Int32)), (.int (247 : Int32)), (.int (248 : Int32)), (.int (767 : Int32)), (.int (768 : Int32)), (.int (879 : Int32)), (.int (880 : Int32)), (.int (893 : Int32)), (.int (894 : Int32)), (.int (895 : Int32)), (.int (8191 : Int32)), (.int (8192 : Int32)), (.int (8203 : Int32)), (.int (8204 : Int32)), (.int (8205 : Int32)), (.int (8206 : Int32)), (.int (8303 : Int32)), (.int (8304 : Int32)), (.int (8591 : Int32)), (.int (0 : Int32)), (.int (0 : Int32)), (.int (0 : Int32)), (.int (0 : Int32)), (.int (0 : Int32)), (.int (0 : Int32)), (.int (0 : Int32)), (.int (0 : Int32)), (.int (0 : Int32)), (.int (0 : Int32)), (.int (0 : Int32)), (.int (0 : Int32)), (.int (0 : Int32)), (.int (0 : Int32)), (.int (0 : Int32)), (.int (0 : Int32)), (.int (0 : Int32)), (.int (0 : Int32)), (.int (0 : Int32)), (.int (0 : Int32)), (.int (0 : Int32)), (.int (0 : Int32)), (.int (0 : Int32)), (.int (0 : Int32)), (.int (0 : Int32))]) :: []) := R122
  have pre123 : ∀ t, Steps p.tables e below (T122.setTop (mkF m 262 #[.val (.int px), .val (.int qx), .val (.int ox), .val (.int dx), .unset, .unset] [(.ref b2)])) t → Steps p.tables e below (s₁.setTop (entryFrame m #[(.int px), (.int qx), (.int ox), (.int dx)] maxLocals)) t := fun t k => pre121 t (st122 t k)
  have pre124 : ∀ t, Steps p.tables e below (T122.setTop (mkF m 268 #[.val (.int px), .val (.int qx), .val (.int ox), .val (.int dx), .unset, .unset] [(.int (8592 : Int32)), (.int (40 : Int32)), (.ref b2), (.ref b2)])) t → Steps p.tables e below (s₁.setTop (entryFrame m #[(.int px), (.int qx), (.int ox), (.int dx)] maxLocals)) t := fun t k => pre123 t (by
    show Steps p.tables e below (T122.setTop (mkF m 262 #[.val (.int px), .val (.int qx), .val (.int ox), .val (.int dx), .unset, .unset] [(.ref b2)])) _
    refine XS.dup X122.here hx rfl (hb hby at_262) rfl rfl ?_
    refine XS.bipush X122.here hx rfl (hb hby at_263) ?_
    refine XS.sipush X122.here hx rfl (hb hby at_265) ?_
    exact k)
  obtain ⟨T125, h125, ls125, X125, e125, N125, R125, st125⟩ := gIst X122 hx hZ e122 N122 R122 0 rfl (j := (40 : Int32)) (by decide) (40) rfl (by decide) (g := (mkF m 268 #[.val (.int px), .val (.int qx), .val (.int ox), .val (.int dx), .unset, .unset] [(.int (8592 : Int32)), (.int (40 : Int32)), (.ref b2), (.ref b2)])) rfl rfl (hb hby at_268)
  replace R125 : Rep Z n0 h125 ((b2, Ar .int [(.int (0 : Int32)), (.int (57 : Int32)), (.int (58 : Int32)), (.int (59 : Int32)), (.int (64 : Int32)), (.int (65 : Int32)), (.int (90 : Int32)), (.int (91 : Int32)), (.int (94 : Int32)), (.int (95 : Int32)), (.int (96 : Int32)), (.int (97 : Int32)), (.int (122 : Int32)), (.int (123 : Int32)), (.int (127 : Int32)), (.int (128 : Int32)), (.int (191 : Int32)), (.int (192 : Int32)), (.int (214 : Int32)), (.int (215 : Int32)), (.int (216 : Int32)), (.int (246 : Int32)), (.int (247 : Int32)), (.int (248 : Int32)), (.int (767 : Int32)), (.int (768 : Int32)), (.int (879 : Int32)), (.int (880 : Int32)), (.int (893 : Int32)), (.int (894 : Int32)), (.int (895 : Int32)), (.int (8191 : Int32)), (.int (8192 : Int32)), (.int (8203 : Int32)), (.int (8204 : Int32)), (.int (8205 : Int32)), (.int (8206 : Int32)), (.int (8303 : Int32)), (.int (8304 : Int32)), (.int (8591 : Int32)), (.int (8592 : Int32)), (.int (0 : Int32)), (.int (0 : Int32)), (.int (0 : Int32)), (.int (0 : Int32)), (.int (0 : Int32)), (.int (0 : Int32)), (.int (0 : Int32)), (.int (0 : Int32)), (.int (0 : Int32)), (.int (0 : Int32)), (.int (0 : Int32)), (.int (0 : Int32)), (.int (0 : Int32)), (.int (0 : Int32)), (.int (0 : Int32)), (.int (0 : Int32)), (.int (0 : Int32)), (.int (0 : Int32)), (.int (0 : Int32)), (.int (0 : Int32)), (.int (0 : Int32)), (.int (0 : Int32)), (.int (0 : Int32)), (.int (0 : Int32))]) :: []) := R125
  have pre126 : ∀ t, Steps p.tables e below (T125.setTop (mkF m 269 #[.val (.int px), .val (.int qx), .val (.int ox), .val (.int dx), .unset, .unset] [(.ref b2)])) t → Steps p.tables e below (s₁.setTop (entryFrame m #[(.int px), (.int qx), (.int ox), (.int dx)] maxLocals)) t := fun t k => pre124 t (st125 t k)
  have pre127 : ∀ t, Steps p.tables e below (T125.setTop (mkF m 275 #[.val (.int px), .val (.int qx), .val (.int ox), .val (.int dx), .unset, .unset] [(.int (11263 : Int32)), (.int (41 : Int32)), (.ref b2), (.ref b2)])) t → Steps p.tables e below (s₁.setTop (entryFrame m #[(.int px), (.int qx), (.int ox), (.int dx)] maxLocals)) t := fun t k => pre126 t (by
    show Steps p.tables e below (T125.setTop (mkF m 269 #[.val (.int px), .val (.int qx), .val (.int ox), .val (.int dx), .unset, .unset] [(.ref b2)])) _
    refine XS.dup X125.here hx rfl (hb hby at_269) rfl rfl ?_
    refine XS.bipush X125.here hx rfl (hb hby at_270) ?_
    refine XS.sipush X125.here hx rfl (hb hby at_272) ?_
    exact k)
  obtain ⟨T128, h128, ls128, X128, e128, N128, R128, st128⟩ := gIst X125 hx hZ e125 N125 R125 0 rfl (j := (41 : Int32)) (by decide) (41) rfl (by decide) (g := (mkF m 275 #[.val (.int px), .val (.int qx), .val (.int ox), .val (.int dx), .unset, .unset] [(.int (11263 : Int32)), (.int (41 : Int32)), (.ref b2), (.ref b2)])) rfl rfl (hb hby at_275)
  replace R128 : Rep Z n0 h128 ((b2, Ar .int [(.int (0 : Int32)), (.int (57 : Int32)), (.int (58 : Int32)), (.int (59 : Int32)), (.int (64 : Int32)), (.int (65 : Int32)), (.int (90 : Int32)), (.int (91 : Int32)), (.int (94 : Int32)), (.int (95 : Int32)), (.int (96 : Int32)), (.int (97 : Int32)), (.int (122 : Int32)), (.int (123 : Int32)), (.int (127 : Int32)), (.int (128 : Int32)), (.int (191 : Int32)), (.int (192 : Int32)), (.int (214 : Int32)), (.int (215 : Int32)), (.int (216 : Int32)), (.int (246 : Int32)), (.int (247 : Int32)), (.int (248 : Int32)), (.int (767 : Int32)), (.int (768 : Int32)), (.int (879 : Int32)), (.int (880 : Int32)), (.int (893 : Int32)), (.int (894 : Int32)), (.int (895 : Int32)), (.int (8191 : Int32)), (.int (8192 : Int32)), (.int (8203 : Int32)), (.int (8204 : Int32)), (.int (8205 : Int32)), (.int (8206 : Int32)), (.int (8303 : Int32)), (.int (8304 : Int32)), (.int (8591 : Int32)), (.int (8592 : Int32)), (.int (11263 : Int32)), (.int (0 : Int32)), (.int (0 : Int32)), (.int (0 : Int32)), (.int (0 : Int32)), (.int (0 : Int32)), (.int (0 : Int32)), (.int (0 : Int32)), (.int (0 : Int32)), (.int (0 : Int32)), (.int (0 : Int32)), (.int (0 : Int32)), (.int (0 : Int32)), (.int (0 : Int32)), (.int (0 : Int32)), (.int (0 : Int32)), (.int (0 : Int32)), (.int (0 : Int32)), (.int (0 : Int32)), (.int (0 : Int32)), (.int (0 : Int32)), (.int (0 : Int32)), (.int (0 : Int32)), (.int (0 : Int32))]) :: []) := R128
  have pre129 : ∀ t, Steps p.tables e below (T128.setTop (mkF m 276 #[.val (.int px), .val (.int qx), .val (.int ox), .val (.int dx), .unset, .unset] [(.ref b2)])) t → Steps p.tables e below (s₁.setTop (entryFrame m #[(.int px), (.int qx), (.int ox), (.int dx)] maxLocals)) t := fun t k => pre127 t (st128 t k)
  have pre130 : ∀ t, Steps p.tables e below (T128.setTop (mkF m 282 #[.val (.int px), .val (.int qx), .val (.int ox), .val (.int dx), .unset, .unset] [(.int (11264 : Int32)), (.int (42 : Int32)), (.ref b2), (.ref b2)])) t → Steps p.tables e below (s₁.setTop (entryFrame m #[(.int px), (.int qx), (.int ox), (.int dx)] maxLocals)) t := fun t k => pre129 t (by
    show Steps p.tables e below (T128.setTop (mkF m 276 #[.val (.int px), .val (.int qx), .val (.int ox), .val (.int dx), .unset, .unset] [(.ref b2)])) _
    refine XS.dup X128.here hx rfl (hb hby at_276) rfl rfl ?_
    refine XS.bipush X128.here hx rfl (hb hby at_277) ?_
    refine XS.sipush X128.here hx rfl (hb hby at_279) ?_
    exact k)
  obtain ⟨T131, h131, ls131, X131, e131, N131, R131, st131⟩ := gIst X128 hx hZ e128 N128 R128 0 rfl (j := (42 : Int32)) (by decide) (42) rfl (by decide) (g := (mkF m 282 #[.val (.int px), .val (.int qx), .val (.int ox), .val (.int dx), .unset, .unset] [(.int (11264 : Int32)), (.int (42 : Int32)), (.ref b2), (.ref b2)])) rfl rfl (hb hby at_282)
  replace R131 : Rep Z n0 h131 ((b2, Ar .int [(.int (0 : Int32)), (.int (57 : Int32)), (.int (58 : Int32)), (.int (59 : Int32)), (.int (64 : Int32)), (.int (65 : Int32)), (.int (90 : Int32)), (.int (91 : Int32)), (.int (94 : Int32)), (.int (95 : Int32)), (.int (96 : Int32)), (.int (97 : Int32)), (.int (122 : Int32)), (.int (123 : Int32)), (.int (127 : Int32)), (.int (128 : Int32)), (.int (191 : Int32)), (.int (192 : Int32)), (.int (214 : Int32)), (.int (215 : Int32)), (.int (216 : Int32)), (.int (246 : Int32)), (.int (247 : Int32)), (.int (248 : Int32)), (.int (767 : Int32)), (.int (768 : Int32)), (.int (879 : Int32)), (.int (880 : Int32)), (.int (893 : Int32)), (.int (894 : Int32)), (.int (895 : Int32)), (.int (8191 : Int32)), (.int (8192 : Int32)), (.int (8203 : Int32)), (.int (8204 : Int32)), (.int (8205 : Int32)), (.int (8206 : Int32)), (.int (8303 : Int32)), (.int (8304 : Int32)), (.int (8591 : Int32)), (.int (8592 : Int32)), (.int (11263 : Int32)), (.int (11264 : Int32)), (.int (0 : Int32)), (.int (0 : Int32)), (.int (0 : Int32)), (.int (0 : Int32)), (.int (0 : Int32)), (.int (0 : Int32)), (.int (0 : Int32)), (.int (0 : Int32)), (.int (0 : Int32)), (.int (0 : Int32)), (.int (0 : Int32)), (.int (0 : Int32)), (.int (0 : Int32)), (.int (0 : Int32)), (.int (0 : Int32)), (.int (0 : Int32)), (.int (0 : Int32)), (.int (0 : Int32)), (.int (0 : Int32)), (.int (0 : Int32)), (.int (0 : Int32)), (.int (0 : Int32))]) :: []) := R131
  have pre132 : ∀ t, Steps p.tables e below (T131.setTop (mkF m 283 #[.val (.int px), .val (.int qx), .val (.int ox), .val (.int dx), .unset, .unset] [(.ref b2)])) t → Steps p.tables e below (s₁.setTop (entryFrame m #[(.int px), (.int qx), (.int ox), (.int dx)] maxLocals)) t := fun t k => pre130 t (st131 t k)
  have pre133 : ∀ t, Steps p.tables e below (T131.setTop (mkF m 289 #[.val (.int px), .val (.int qx), .val (.int ox), .val (.int dx), .unset, .unset] [(.int (12271 : Int32)), (.int (43 : Int32)), (.ref b2), (.ref b2)])) t → Steps p.tables e below (s₁.setTop (entryFrame m #[(.int px), (.int qx), (.int ox), (.int dx)] maxLocals)) t := fun t k => pre132 t (by
    show Steps p.tables e below (T131.setTop (mkF m 283 #[.val (.int px), .val (.int qx), .val (.int ox), .val (.int dx), .unset, .unset] [(.ref b2)])) _
    refine XS.dup X131.here hx rfl (hb hby at_283) rfl rfl ?_
    refine XS.bipush X131.here hx rfl (hb hby at_284) ?_
    refine XS.sipush X131.here hx rfl (hb hby at_286) ?_
    exact k)
  obtain ⟨T134, h134, ls134, X134, e134, N134, R134, st134⟩ := gIst X131 hx hZ e131 N131 R131 0 rfl (j := (43 : Int32)) (by decide) (43) rfl (by decide) (g := (mkF m 289 #[.val (.int px), .val (.int qx), .val (.int ox), .val (.int dx), .unset, .unset] [(.int (12271 : Int32)), (.int (43 : Int32)), (.ref b2), (.ref b2)])) rfl rfl (hb hby at_289)
  replace R134 : Rep Z n0 h134 ((b2, Ar .int [(.int (0 : Int32)), (.int (57 : Int32)), (.int (58 : Int32)), (.int (59 : Int32)), (.int (64 : Int32)), (.int (65 : Int32)), (.int (90 : Int32)), (.int (91 : Int32)), (.int (94 : Int32)), (.int (95 : Int32)), (.int (96 : Int32)), (.int (97 : Int32)), (.int (122 : Int32)), (.int (123 : Int32)), (.int (127 : Int32)), (.int (128 : Int32)), (.int (191 : Int32)), (.int (192 : Int32)), (.int (214 : Int32)), (.int (215 : Int32)), (.int (216 : Int32)), (.int (246 : Int32)), (.int (247 : Int32)), (.int (248 : Int32)), (.int (767 : Int32)), (.int (768 : Int32)), (.int (879 : Int32)), (.int (880 : Int32)), (.int (893 : Int32)), (.int (894 : Int32)), (.int (895 : Int32)), (.int (8191 : Int32)), (.int (8192 : Int32)), (.int (8203 : Int32)), (.int (8204 : Int32)), (.int (8205 : Int32)), (.int (8206 : Int32)), (.int (8303 : Int32)), (.int (8304 : Int32)), (.int (8591 : Int32)), (.int (8592 : Int32)), (.int (11263 : Int32)), (.int (11264 : Int32)), (.int (12271 : Int32)), (.int (0 : Int32)), (.int (0 : Int32)), (.int (0 : Int32)), (.int (0 : Int32)), (.int (0 : Int32)), (.int (0 : Int32)), (.int (0 : Int32)), (.int (0 : Int32)), (.int (0 : Int32)), (.int (0 : Int32)), (.int (0 : Int32)), (.int (0 : Int32)), (.int (0 : Int32)), (.int (0 : Int32)), (.int (0 : Int32)), (.int (0 : Int32)), (.int (0 : Int32)), (.int (0 : Int32)), (.int (0 : Int32)), (.int (0 : Int32)), (.int (0 : Int32))]) :: []) := R134
  have pre135 : ∀ t, Steps p.tables e below (T134.setTop (mkF m 290 #[.val (.int px), .val (.int qx), .val (.int ox), .val (.int dx), .unset, .unset] [(.ref b2)])) t → Steps p.tables e below (s₁.setTop (entryFrame m #[(.int px), (.int qx), (.int ox), (.int dx)] maxLocals)) t := fun t k => pre133 t (st134 t k)
  have pre136 : ∀ t, Steps p.tables e below (T134.setTop (mkF m 296 #[.val (.int px), .val (.int qx), .val (.int ox), .val (.int dx), .unset, .unset] [(.int (12272 : Int32)), (.int (44 : Int32)), (.ref b2), (.ref b2)])) t → Steps p.tables e below (s₁.setTop (entryFrame m #[(.int px), (.int qx), (.int ox), (.int dx)] maxLocals)) t := fun t k => pre135 t (by
    show Steps p.tables e below (T134.setTop (mkF m 290 #[.val (.int px), .val (.int qx), .val (.int ox), .val (.int dx), .unset, .unset] [(.ref b2)])) _
    refine XS.dup X134.here hx rfl (hb hby at_290) rfl rfl ?_
    refine XS.bipush X134.here hx rfl (hb hby at_291) ?_
    refine XS.sipush X134.here hx rfl (hb hby at_293) ?_
    exact k)
  obtain ⟨T137, h137, ls137, X137, e137, N137, R137, st137⟩ := gIst X134 hx hZ e134 N134 R134 0 rfl (j := (44 : Int32)) (by decide) (44) rfl (by decide) (g := (mkF m 296 #[.val (.int px), .val (.int qx), .val (.int ox), .val (.int dx), .unset, .unset] [(.int (12272 : Int32)), (.int (44 : Int32)), (.ref b2), (.ref b2)])) rfl rfl (hb hby at_296)
  replace R137 : Rep Z n0 h137 ((b2, Ar .int [(.int (0 : Int32)), (.int (57 : Int32)), (.int (58 : Int32)), (.int (59 : Int32)), (.int (64 : Int32)), (.int (65 : Int32)), (.int (90 : Int32)), (.int (91 : Int32)), (.int (94 : Int32)), (.int (95 : Int32)), (.int (96 : Int32)), (.int (97 : Int32)), (.int (122 : Int32)), (.int (123 : Int32)), (.int (127 : Int32)), (.int (128 : Int32)), (.int (191 : Int32)), (.int (192 : Int32)), (.int (214 : Int32)), (.int (215 : Int32)), (.int (216 : Int32)), (.int (246 : Int32)), (.int (247 : Int32)), (.int (248 : Int32)), (.int (767 : Int32)), (.int (768 : Int32)), (.int (879 : Int32)), (.int (880 : Int32)), (.int (893 : Int32)), (.int (894 : Int32)), (.int (895 : Int32)), (.int (8191 : Int32)), (.int (8192 : Int32)), (.int (8203 : Int32)), (.int (8204 : Int32)), (.int (8205 : Int32)), (.int (8206 : Int32)), (.int (8303 : Int32)), (.int (8304 : Int32)), (.int (8591 : Int32)), (.int (8592 : Int32)), (.int (11263 : Int32)), (.int (11264 : Int32)), (.int (12271 : Int32)), (.int (12272 : Int32)), (.int (0 : Int32)), (.int (0 : Int32)), (.int (0 : Int32)), (.int (0 : Int32)), (.int (0 : Int32)), (.int (0 : Int32)), (.int (0 : Int32)), (.int (0 : Int32)), (.int (0 : Int32)), (.int (0 : Int32)), (.int (0 : Int32)), (.int (0 : Int32)), (.int (0 : Int32)), (.int (0 : Int32)), (.int (0 : Int32)), (.int (0 : Int32)), (.int (0 : Int32)), (.int (0 : Int32)), (.int (0 : Int32)), (.int (0 : Int32))]) :: []) := R137
  have pre138 : ∀ t, Steps p.tables e below (T137.setTop (mkF m 297 #[.val (.int px), .val (.int qx), .val (.int ox), .val (.int dx), .unset, .unset] [(.ref b2)])) t → Steps p.tables e below (s₁.setTop (entryFrame m #[(.int px), (.int qx), (.int ox), (.int dx)] maxLocals)) t := fun t k => pre136 t (st137 t k)
  have pre139 : ∀ t, Steps p.tables e below (T137.setTop (mkF m 303 #[.val (.int px), .val (.int qx), .val (.int ox), .val (.int dx), .unset, .unset] [(.int (12288 : Int32)), (.int (45 : Int32)), (.ref b2), (.ref b2)])) t → Steps p.tables e below (s₁.setTop (entryFrame m #[(.int px), (.int qx), (.int ox), (.int dx)] maxLocals)) t := fun t k => pre138 t (by
    show Steps p.tables e below (T137.setTop (mkF m 297 #[.val (.int px), .val (.int qx), .val (.int ox), .val (.int dx), .unset, .unset] [(.ref b2)])) _
    refine XS.dup X137.here hx rfl (hb hby at_297) rfl rfl ?_
    refine XS.bipush X137.here hx rfl (hb hby at_298) ?_
    refine XS.sipush X137.here hx rfl (hb hby at_300) ?_
    exact k)
  obtain ⟨T140, h140, ls140, X140, e140, N140, R140, st140⟩ := gIst X137 hx hZ e137 N137 R137 0 rfl (j := (45 : Int32)) (by decide) (45) rfl (by decide) (g := (mkF m 303 #[.val (.int px), .val (.int qx), .val (.int ox), .val (.int dx), .unset, .unset] [(.int (12288 : Int32)), (.int (45 : Int32)), (.ref b2), (.ref b2)])) rfl rfl (hb hby at_303)
  replace R140 : Rep Z n0 h140 ((b2, Ar .int [(.int (0 : Int32)), (.int (57 : Int32)), (.int (58 : Int32)), (.int (59 : Int32)), (.int (64 : Int32)), (.int (65 : Int32)), (.int (90 : Int32)), (.int (91 : Int32)), (.int (94 : Int32)), (.int (95 : Int32)), (.int (96 : Int32)), (.int (97 : Int32)), (.int (122 : Int32)), (.int (123 : Int32)), (.int (127 : Int32)), (.int (128 : Int32)), (.int (191 : Int32)), (.int (192 : Int32)), (.int (214 : Int32)), (.int (215 : Int32)), (.int (216 : Int32)), (.int (246 : Int32)), (.int (247 : Int32)), (.int (248 : Int32)), (.int (767 : Int32)), (.int (768 : Int32)), (.int (879 : Int32)), (.int (880 : Int32)), (.int (893 : Int32)), (.int (894 : Int32)), (.int (895 : Int32)), (.int (8191 : Int32)), (.int (8192 : Int32)), (.int (8203 : Int32)), (.int (8204 : Int32)), (.int (8205 : Int32)), (.int (8206 : Int32)), (.int (8303 : Int32)), (.int (8304 : Int32)), (.int (8591 : Int32)), (.int (8592 : Int32)), (.int (11263 : Int32)), (.int (11264 : Int32)), (.int (12271 : Int32)), (.int (12272 : Int32)), (.int (12288 : Int32)), (.int (0 : Int32)), (.int (0 : Int32)), (.int (0 : Int32)), (.int (0 : Int32)), (.int (0 : Int32)), (.int (0 : Int32)), (.int (0 : Int32)), (.int (0 : Int32)), (.int (0 : Int32)), (.int (0 : Int32)), (.int (0 : Int32)), (.int (0 : Int32)), (.int (0 : Int32)), (.int (0 : Int32)), (.int (0 : Int32)), (.int (0 : Int32)), (.int (0 : Int32)), (.int (0 : Int32)), (.int (0 : Int32))]) :: []) := R140
  have pre141 : ∀ t, Steps p.tables e below (T140.setTop (mkF m 304 #[.val (.int px), .val (.int qx), .val (.int ox), .val (.int dx), .unset, .unset] [(.ref b2)])) t → Steps p.tables e below (s₁.setTop (entryFrame m #[(.int px), (.int qx), (.int ox), (.int dx)] maxLocals)) t := fun t k => pre139 t (st140 t k)
  have pre142 : ∀ t, Steps p.tables e below (T140.setTop (mkF m 310 #[.val (.int px), .val (.int qx), .val (.int ox), .val (.int dx), .unset, .unset] [(.int (12289 : Int32)), (.int (46 : Int32)), (.ref b2), (.ref b2)])) t → Steps p.tables e below (s₁.setTop (entryFrame m #[(.int px), (.int qx), (.int ox), (.int dx)] maxLocals)) t := fun t k => pre141 t (by
    show Steps p.tables e below (T140.setTop (mkF m 304 #[.val (.int px), .val (.int qx), .val (.int ox), .val (.int dx), .unset, .unset] [(.ref b2)])) _
    refine XS.dup X140.here hx rfl (hb hby at_304) rfl rfl ?_
    refine XS.bipush X140.here hx rfl (hb hby at_305) ?_
    refine XS.sipush X140.here hx rfl (hb hby at_307) ?_
    exact k)
  obtain ⟨T143, h143, ls143, X143, e143, N143, R143, st143⟩ := gIst X140 hx hZ e140 N140 R140 0 rfl (j := (46 : Int32)) (by decide) (46) rfl (by decide) (g := (mkF m 310 #[.val (.int px), .val (.int qx), .val (.int ox), .val (.int dx), .unset, .unset] [(.int (12289 : Int32)), (.int (46 : Int32)), (.ref b2), (.ref b2)])) rfl rfl (hb hby at_310)
  replace R143 : Rep Z n0 h143 ((b2, Ar .int [(.int (0 : Int32)), (.int (57 : Int32)), (.int (58 : Int32)), (.int (59 : Int32)), (.int (64 : Int32)), (.int (65 : Int32)), (.int (90 : Int32)), (.int (91 : Int32)), (.int (94 : Int32)), (.int (95 : Int32)), (.int (96 : Int32)), (.int (97 : Int32)), (.int (122 : Int32)), (.int (123 : Int32)), (.int (127 : Int32)), (.int (128 : Int32)), (.int (191 : Int32)), (.int (192 : Int32)), (.int (214 : Int32)), (.int (215 : Int32)), (.int (216 : Int32)), (.int (246 : Int32)), (.int (247 : Int32)), (.int (248 : Int32)), (.int (767 : Int32)), (.int (768 : Int32)), (.int (879 : Int32)), (.int (880 : Int32)), (.int (893 : Int32)), (.int (894 : Int32)), (.int (895 : Int32)), (.int (8191 : Int32)), (.int (8192 : Int32)), (.int (8203 : Int32)), (.int (8204 : Int32)), (.int (8205 : Int32)), (.int (8206 : Int32)), (.int (8303 : Int32)), (.int (8304 : Int32)), (.int (8591 : Int32)), (.int (8592 : Int32)), (.int (11263 : Int32)), (.int (11264 : Int32)), (.int (12271 : Int32)), (.int (12272 : Int32)), (.int (12288 : Int32)), (.int (12289 : Int32)), (.int (0 : Int32)), (.int (0 : Int32)), (.int (0 : Int32)), (.int (0 : Int32)), (.int (0 : Int32)), (.int (0 : Int32)), (.int (0 : Int32)), (.int (0 : Int32)), (.int (0 : Int32)), (.int (0 : Int32)), (.int (0 : Int32)), (.int (0 : Int32)), (.int (0 : Int32)), (.int (0 : Int32)), (.int (0 : Int32)), (.int (0 : Int32)), (.int (0 : Int32)), (.int (0 : Int32))]) :: []) := R143
  have pre144 : ∀ t, Steps p.tables e below (T143.setTop (mkF m 311 #[.val (.int px), .val (.int qx), .val (.int ox), .val (.int dx), .unset, .unset] [(.ref b2)])) t → Steps p.tables e below (s₁.setTop (entryFrame m #[(.int px), (.int qx), (.int ox), (.int dx)] maxLocals)) t := fun t k => pre142 t (st143 t k)
  have pre145 : ∀ t, Steps p.tables e below (T143.setTop (mkF m 316 #[.val (.int px), .val (.int qx), .val (.int ox), .val (.int dx), .unset, .unset] [(.int (55295 : Int32)), (.int (47 : Int32)), (.ref b2), (.ref b2)])) t → Steps p.tables e below (s₁.setTop (entryFrame m #[(.int px), (.int qx), (.int ox), (.int dx)] maxLocals)) t := fun t k => pre144 t (by
    show Steps p.tables e below (T143.setTop (mkF m 311 #[.val (.int px), .val (.int qx), .val (.int ox), .val (.int dx), .unset, .unset] [(.ref b2)])) _
    refine XS.dup X143.here hx rfl (hb hby at_311) rfl rfl ?_
    refine XS.bipush X143.here hx rfl (hb hby at_312) ?_
    refine X143.ldcInt hx hown (mvT hZ (hw _ (List.mem_of_getElem? (i := 1) rfl))) (g := (mkF m 314 #[.val (.int px), .val (.int qx), .val (.int ox), .val (.int dx), .unset, .unset] [(.int (47 : Int32)), (.ref b2), (.ref b2)])) rfl (hb hby at_314) _ ?_
    exact k)
  obtain ⟨T146, h146, ls146, X146, e146, N146, R146, st146⟩ := gIst X143 hx hZ e143 N143 R143 0 rfl (j := (47 : Int32)) (by decide) (47) rfl (by decide) (g := (mkF m 316 #[.val (.int px), .val (.int qx), .val (.int ox), .val (.int dx), .unset, .unset] [(.int (55295 : Int32)), (.int (47 : Int32)), (.ref b2), (.ref b2)])) rfl rfl (hb hby at_316)
  replace R146 : Rep Z n0 h146 ((b2, Ar .int [(.int (0 : Int32)), (.int (57 : Int32)), (.int (58 : Int32)), (.int (59 : Int32)), (.int (64 : Int32)), (.int (65 : Int32)), (.int (90 : Int32)), (.int (91 : Int32)), (.int (94 : Int32)), (.int (95 : Int32)), (.int (96 : Int32)), (.int (97 : Int32)), (.int (122 : Int32)), (.int (123 : Int32)), (.int (127 : Int32)), (.int (128 : Int32)), (.int (191 : Int32)), (.int (192 : Int32)), (.int (214 : Int32)), (.int (215 : Int32)), (.int (216 : Int32)), (.int (246 : Int32)), (.int (247 : Int32)), (.int (248 : Int32)), (.int (767 : Int32)), (.int (768 : Int32)), (.int (879 : Int32)), (.int (880 : Int32)), (.int (893 : Int32)), (.int (894 : Int32)), (.int (895 : Int32)), (.int (8191 : Int32)), (.int (8192 : Int32)), (.int (8203 : Int32)), (.int (8204 : Int32)), (.int (8205 : Int32)), (.int (8206 : Int32)), (.int (8303 : Int32)), (.int (8304 : Int32)), (.int (8591 : Int32)), (.int (8592 : Int32)), (.int (11263 : Int32)), (.int (11264 : Int32)), (.int (12271 : Int32)), (.int (12272 : Int32)), (.int (12288 : Int32)), (.int (12289 : Int32)), (.int (55295 : Int32)), (.int (0 : Int32)), (.int (0 : Int32)), (.int (0 : Int32)), (.int (0 : Int32)), (.int (0 : Int32)), (.int (0 : Int32)), (.int (0 : Int32)), (.int (0 : Int32)), (.int (0 : Int32)), (.int (0 : Int32)), (.int (0 : Int32)), (.int (0 : Int32)), (.int (0 : Int32)), (.int (0 : Int32)), (.int (0 : Int32)), (.int (0 : Int32)), (.int (0 : Int32))]) :: []) := R146
  have pre147 : ∀ t, Steps p.tables e below (T146.setTop (mkF m 317 #[.val (.int px), .val (.int qx), .val (.int ox), .val (.int dx), .unset, .unset] [(.ref b2)])) t → Steps p.tables e below (s₁.setTop (entryFrame m #[(.int px), (.int qx), (.int ox), (.int dx)] maxLocals)) t := fun t k => pre145 t (st146 t k)
  have pre148 : ∀ t, Steps p.tables e below (T146.setTop (mkF m 322 #[.val (.int px), .val (.int qx), .val (.int ox), .val (.int dx), .unset, .unset] [(.int (55296 : Int32)), (.int (48 : Int32)), (.ref b2), (.ref b2)])) t → Steps p.tables e below (s₁.setTop (entryFrame m #[(.int px), (.int qx), (.int ox), (.int dx)] maxLocals)) t := fun t k => pre147 t (by
    show Steps p.tables e below (T146.setTop (mkF m 317 #[.val (.int px), .val (.int qx), .val (.int ox), .val (.int dx), .unset, .unset] [(.ref b2)])) _
    refine XS.dup X146.here hx rfl (hb hby at_317) rfl rfl ?_
    refine XS.bipush X146.here hx rfl (hb hby at_318) ?_
    refine X146.ldcInt hx hown (mvT hZ (hw _ (List.mem_of_getElem? (i := 2) rfl))) (g := (mkF m 320 #[.val (.int px), .val (.int qx), .val (.int ox), .val (.int dx), .unset, .unset] [(.int (48 : Int32)), (.ref b2), (.ref b2)])) rfl (hb hby at_320) _ ?_
    exact k)
  obtain ⟨T149, h149, ls149, X149, e149, N149, R149, st149⟩ := gIst X146 hx hZ e146 N146 R146 0 rfl (j := (48 : Int32)) (by decide) (48) rfl (by decide) (g := (mkF m 322 #[.val (.int px), .val (.int qx), .val (.int ox), .val (.int dx), .unset, .unset] [(.int (55296 : Int32)), (.int (48 : Int32)), (.ref b2), (.ref b2)])) rfl rfl (hb hby at_322)
  replace R149 : Rep Z n0 h149 ((b2, Ar .int [(.int (0 : Int32)), (.int (57 : Int32)), (.int (58 : Int32)), (.int (59 : Int32)), (.int (64 : Int32)), (.int (65 : Int32)), (.int (90 : Int32)), (.int (91 : Int32)), (.int (94 : Int32)), (.int (95 : Int32)), (.int (96 : Int32)), (.int (97 : Int32)), (.int (122 : Int32)), (.int (123 : Int32)), (.int (127 : Int32)), (.int (128 : Int32)), (.int (191 : Int32)), (.int (192 : Int32)), (.int (214 : Int32)), (.int (215 : Int32)), (.int (216 : Int32)), (.int (246 : Int32)), (.int (247 : Int32)), (.int (248 : Int32)), (.int (767 : Int32)), (.int (768 : Int32)), (.int (879 : Int32)), (.int (880 : Int32)), (.int (893 : Int32)), (.int (894 : Int32)), (.int (895 : Int32)), (.int (8191 : Int32)), (.int (8192 : Int32)), (.int (8203 : Int32)), (.int (8204 : Int32)), (.int (8205 : Int32)), (.int (8206 : Int32)), (.int (8303 : Int32)), (.int (8304 : Int32)), (.int (8591 : Int32)), (.int (8592 : Int32)), (.int (11263 : Int32)), (.int (11264 : Int32)), (.int (12271 : Int32)), (.int (12272 : Int32)), (.int (12288 : Int32)), (.int (12289 : Int32)), (.int (55295 : Int32)), (.int (55296 : Int32)), (.int (0 : Int32)), (.int (0 : Int32)), (.int (0 : Int32)), (.int (0 : Int32)), (.int (0 : Int32)), (.int (0 : Int32)), (.int (0 : Int32)), (.int (0 : Int32)), (.int (0 : Int32)), (.int (0 : Int32)), (.int (0 : Int32)), (.int (0 : Int32)), (.int (0 : Int32)), (.int (0 : Int32)), (.int (0 : Int32)), (.int (0 : Int32))]) :: []) := R149
  have pre150 : ∀ t, Steps p.tables e below (T149.setTop (mkF m 323 #[.val (.int px), .val (.int qx), .val (.int ox), .val (.int dx), .unset, .unset] [(.ref b2)])) t → Steps p.tables e below (s₁.setTop (entryFrame m #[(.int px), (.int qx), (.int ox), (.int dx)] maxLocals)) t := fun t k => pre148 t (st149 t k)
  have pre151 : ∀ t, Steps p.tables e below (T149.setTop (mkF m 328 #[.val (.int px), .val (.int qx), .val (.int ox), .val (.int dx), .unset, .unset] [(.int (63743 : Int32)), (.int (49 : Int32)), (.ref b2), (.ref b2)])) t → Steps p.tables e below (s₁.setTop (entryFrame m #[(.int px), (.int qx), (.int ox), (.int dx)] maxLocals)) t := fun t k => pre150 t (by
    show Steps p.tables e below (T149.setTop (mkF m 323 #[.val (.int px), .val (.int qx), .val (.int ox), .val (.int dx), .unset, .unset] [(.ref b2)])) _
    refine XS.dup X149.here hx rfl (hb hby at_323) rfl rfl ?_
    refine XS.bipush X149.here hx rfl (hb hby at_324) ?_
    refine X149.ldcInt hx hown (mvT hZ (hw _ (List.mem_of_getElem? (i := 3) rfl))) (g := (mkF m 326 #[.val (.int px), .val (.int qx), .val (.int ox), .val (.int dx), .unset, .unset] [(.int (49 : Int32)), (.ref b2), (.ref b2)])) rfl (hb hby at_326) _ ?_
    exact k)
  obtain ⟨T152, h152, ls152, X152, e152, N152, R152, st152⟩ := gIst X149 hx hZ e149 N149 R149 0 rfl (j := (49 : Int32)) (by decide) (49) rfl (by decide) (g := (mkF m 328 #[.val (.int px), .val (.int qx), .val (.int ox), .val (.int dx), .unset, .unset] [(.int (63743 : Int32)), (.int (49 : Int32)), (.ref b2), (.ref b2)])) rfl rfl (hb hby at_328)
  replace R152 : Rep Z n0 h152 ((b2, Ar .int [(.int (0 : Int32)), (.int (57 : Int32)), (.int (58 : Int32)), (.int (59 : Int32)), (.int (64 : Int32)), (.int (65 : Int32)), (.int (90 : Int32)), (.int (91 : Int32)), (.int (94 : Int32)), (.int (95 : Int32)), (.int (96 : Int32)), (.int (97 : Int32)), (.int (122 : Int32)), (.int (123 : Int32)), (.int (127 : Int32)), (.int (128 : Int32)), (.int (191 : Int32)), (.int (192 : Int32)), (.int (214 : Int32)), (.int (215 : Int32)), (.int (216 : Int32)), (.int (246 : Int32)), (.int (247 : Int32)), (.int (248 : Int32)), (.int (767 : Int32)), (.int (768 : Int32)), (.int (879 : Int32)), (.int (880 : Int32)), (.int (893 : Int32)), (.int (894 : Int32)), (.int (895 : Int32)), (.int (8191 : Int32)), (.int (8192 : Int32)), (.int (8203 : Int32)), (.int (8204 : Int32)), (.int (8205 : Int32)), (.int (8206 : Int32)), (.int (8303 : Int32)), (.int (8304 : Int32)), (.int (8591 : Int32)), (.int (8592 : Int32)), (.int (11263 : Int32)), (.int (11264 : Int32)), (.int (12271 : Int32)), (.int (12272 : Int32)), (.int (12288 : Int32)), (.int (12289 : Int32)), (.int (55295 : Int32)), (.int (55296 : Int32)), (.int (63743 : Int32)), (.int (0 : Int32)), (.int (0 : Int32)), (.int (0 : Int32)), (.int (0 : Int32)), (.int (0 : Int32)), (.int (0 : Int32)), (.int (0 : Int32)), (.int (0 : Int32)), (.int (0 : Int32)), (.int (0 : Int32)), (.int (0 : Int32)), (.int (0 : Int32)), (.int (0 : Int32)), (.int (0 : Int32)), (.int (0 : Int32))]) :: []) := R152
  have pre153 : ∀ t, Steps p.tables e below (T152.setTop (mkF m 329 #[.val (.int px), .val (.int qx), .val (.int ox), .val (.int dx), .unset, .unset] [(.ref b2)])) t → Steps p.tables e below (s₁.setTop (entryFrame m #[(.int px), (.int qx), (.int ox), (.int dx)] maxLocals)) t := fun t k => pre151 t (st152 t k)
  have pre154 : ∀ t, Steps p.tables e below (T152.setTop (mkF m 334 #[.val (.int px), .val (.int qx), .val (.int ox), .val (.int dx), .unset, .unset] [(.int (63744 : Int32)), (.int (50 : Int32)), (.ref b2), (.ref b2)])) t → Steps p.tables e below (s₁.setTop (entryFrame m #[(.int px), (.int qx), (.int ox), (.int dx)] maxLocals)) t := fun t k => pre153 t (by
    show Steps p.tables e below (T152.setTop (mkF m 329 #[.val (.int px), .val (.int qx), .val (.int ox), .val (.int dx), .unset, .unset] [(.ref b2)])) _
    refine XS.dup X152.here hx rfl (hb hby at_329) rfl rfl ?_
    refine XS.bipush X152.here hx rfl (hb hby at_330) ?_
    refine X152.ldcInt hx hown (mvT hZ (hw _ (List.mem_of_getElem? (i := 4) rfl))) (g := (mkF m 332 #[.val (.int px), .val (.int qx), .val (.int ox), .val (.int dx), .unset, .unset] [(.int (50 : Int32)), (.ref b2), (.ref b2)])) rfl (hb hby at_332) _ ?_
    exact k)
  obtain ⟨T155, h155, ls155, X155, e155, N155, R155, st155⟩ := gIst X152 hx hZ e152 N152 R152 0 rfl (j := (50 : Int32)) (by decide) (50) rfl (by decide) (g := (mkF m 334 #[.val (.int px), .val (.int qx), .val (.int ox), .val (.int dx), .unset, .unset] [(.int (63744 : Int32)), (.int (50 : Int32)), (.ref b2), (.ref b2)])) rfl rfl (hb hby at_334)
  replace R155 : Rep Z n0 h155 ((b2, Ar .int [(.int (0 : Int32)), (.int (57 : Int32)), (.int (58 : Int32)), (.int (59 : Int32)), (.int (64 : Int32)), (.int (65 : Int32)), (.int (90 : Int32)), (.int (91 : Int32)), (.int (94 : Int32)), (.int (95 : Int32)), (.int (96 : Int32)), (.int (97 : Int32)), (.int (122 : Int32)), (.int (123 : Int32)), (.int (127 : Int32)), (.int (128 : Int32)), (.int (191 : Int32)), (.int (192 : Int32)), (.int (214 : Int32)), (.int (215 : Int32)), (.int (216 : Int32)), (.int (246 : Int32)), (.int (247 : Int32)), (.int (248 : Int32)), (.int (767 : Int32)), (.int (768 : Int32)), (.int (879 : Int32)), (.int (880 : Int32)), (.int (893 : Int32)), (.int (894 : Int32)), (.int (895 : Int32)), (.int (8191 : Int32)), (.int (8192 : Int32)), (.int (8203 : Int32)), (.int (8204 : Int32)), (.int (8205 : Int32)), (.int (8206 : Int32)), (.int (8303 : Int32)), (.int (8304 : Int32)), (.int (8591 : Int32)), (.int (8592 : Int32)), (.int (11263 : Int32)), (.int (11264 : Int32)), (.int (12271 : Int32)), (.int (12272 : Int32)), (.int (12288 : Int32)), (.int (12289 : Int32)), (.int (55295 : Int32)), (.int (55296 : Int32)), (.int (63743 : Int32)), (.int (63744 : Int32)), (.int (0 : Int32)), (.int (0 : Int32)), (.int (0 : Int32)), (.int (0 : Int32)), (.int (0 : Int32)), (.int (0 : Int32)), (.int (0 : Int32)), (.int (0 : Int32)), (.int (0 : Int32)), (.int (0 : Int32)), (.int (0 : Int32)), (.int (0 : Int32)), (.int (0 : Int32)), (.int (0 : Int32))]) :: []) := R155
  have pre156 : ∀ t, Steps p.tables e below (T155.setTop (mkF m 335 #[.val (.int px), .val (.int qx), .val (.int ox), .val (.int dx), .unset, .unset] [(.ref b2)])) t → Steps p.tables e below (s₁.setTop (entryFrame m #[(.int px), (.int qx), (.int ox), (.int dx)] maxLocals)) t := fun t k => pre154 t (st155 t k)
  have pre157 : ∀ t, Steps p.tables e below (T155.setTop (mkF m 340 #[.val (.int px), .val (.int qx), .val (.int ox), .val (.int dx), .unset, .unset] [(.int (64975 : Int32)), (.int (51 : Int32)), (.ref b2), (.ref b2)])) t → Steps p.tables e below (s₁.setTop (entryFrame m #[(.int px), (.int qx), (.int ox), (.int dx)] maxLocals)) t := fun t k => pre156 t (by
    show Steps p.tables e below (T155.setTop (mkF m 335 #[.val (.int px), .val (.int qx), .val (.int ox), .val (.int dx), .unset, .unset] [(.ref b2)])) _
    refine XS.dup X155.here hx rfl (hb hby at_335) rfl rfl ?_
    refine XS.bipush X155.here hx rfl (hb hby at_336) ?_
    refine X155.ldcInt hx hown (mvT hZ (hw _ (List.mem_of_getElem? (i := 5) rfl))) (g := (mkF m 338 #[.val (.int px), .val (.int qx), .val (.int ox), .val (.int dx), .unset, .unset] [(.int (51 : Int32)), (.ref b2), (.ref b2)])) rfl (hb hby at_338) _ ?_
    exact k)
  obtain ⟨T158, h158, ls158, X158, e158, N158, R158, st158⟩ := gIst X155 hx hZ e155 N155 R155 0 rfl (j := (51 : Int32)) (by decide) (51) rfl (by decide) (g := (mkF m 340 #[.val (.int px), .val (.int qx), .val (.int ox), .val (.int dx), .unset, .unset] [(.int (64975 : Int32)), (.int (51 : Int32)), (.ref b2), (.ref b2)])) rfl rfl (hb hby at_340)
  replace R158 : Rep Z n0 h158 ((b2, Ar .int [(.int (0 : Int32)), (.int (57 : Int32)), (.int (58 : Int32)), (.int (59 : Int32)), (.int (64 : Int32)), (.int (65 : Int32)), (.int (90 : Int32)), (.int (91 : Int32)), (.int (94 : Int32)), (.int (95 : Int32)), (.int (96 : Int32)), (.int (97 : Int32)), (.int (122 : Int32)), (.int (123 : Int32)), (.int (127 : Int32)), (.int (128 : Int32)), (.int (191 : Int32)), (.int (192 : Int32)), (.int (214 : Int32)), (.int (215 : Int32)), (.int (216 : Int32)), (.int (246 : Int32)), (.int (247 : Int32)), (.int (248 : Int32)), (.int (767 : Int32)), (.int (768 : Int32)), (.int (879 : Int32)), (.int (880 : Int32)), (.int (893 : Int32)), (.int (894 : Int32)), (.int (895 : Int32)), (.int (8191 : Int32)), (.int (8192 : Int32)), (.int (8203 : Int32)), (.int (8204 : Int32)), (.int (8205 : Int32)), (.int (8206 : Int32)), (.int (8303 : Int32)), (.int (8304 : Int32)), (.int (8591 : Int32)), (.int (8592 : Int32)), (.int (11263 : Int32)), (.int (11264 : Int32)), (.int (12271 : Int32)), (.int (12272 : Int32)), (.int (12288 : Int32)), (.int (12289 : Int32)), (.int (55295 : Int32)), (.int (55296 : Int32)), (.int (63743 : Int32)), (.int (63744 : Int32)), (.int (64975 : Int32)), (.int (0 : Int32)), (.int (0 : Int32)), (.int (0 : Int32)), (.int (0 : Int32)), (.int (0 : Int32)), (.int (0 : Int32)), (.int (0 : Int32)), (.int (0 : Int32)), (.int (0 : Int32)), (.int (0 : Int32)), (.int (0 : Int32)), (.int (0 : Int32)), (.int (0 : Int32))]) :: []) := R158
  have pre159 : ∀ t, Steps p.tables e below (T158.setTop (mkF m 341 #[.val (.int px), .val (.int qx), .val (.int ox), .val (.int dx), .unset, .unset] [(.ref b2)])) t → Steps p.tables e below (s₁.setTop (entryFrame m #[(.int px), (.int qx), (.int ox), (.int dx)] maxLocals)) t := fun t k => pre157 t (st158 t k)
  have pre160 : ∀ t, Steps p.tables e below (T158.setTop (mkF m 346 #[.val (.int px), .val (.int qx), .val (.int ox), .val (.int dx), .unset, .unset] [(.int (64976 : Int32)), (.int (52 : Int32)), (.ref b2), (.ref b2)])) t → Steps p.tables e below (s₁.setTop (entryFrame m #[(.int px), (.int qx), (.int ox), (.int dx)] maxLocals)) t := fun t k => pre159 t (by
    show Steps p.tables e below (T158.setTop (mkF m 341 #[.val (.int px), .val (.int qx), .val (.int ox), .val (.int dx), .unset, .unset] [(.ref b2)])) _
    refine XS.dup X158.here hx rfl (hb hby at_341) rfl rfl ?_
    refine XS.bipush X158.here hx rfl (hb hby at_342) ?_
    refine X158.ldcInt hx hown (mvT hZ (hw _ (List.mem_of_getElem? (i := 6) rfl))) (g := (mkF m 344 #[.val (.int px), .val (.int qx), .val (.int ox), .val (.int dx), .unset, .unset] [(.int (52 : Int32)), (.ref b2), (.ref b2)])) rfl (hb hby at_344) _ ?_
    exact k)
  obtain ⟨T161, h161, ls161, X161, e161, N161, R161, st161⟩ := gIst X158 hx hZ e158 N158 R158 0 rfl (j := (52 : Int32)) (by decide) (52) rfl (by decide) (g := (mkF m 346 #[.val (.int px), .val (.int qx), .val (.int ox), .val (.int dx), .unset, .unset] [(.int (64976 : Int32)), (.int (52 : Int32)), (.ref b2), (.ref b2)])) rfl rfl (hb hby at_346)
  replace R161 : Rep Z n0 h161 ((b2, Ar .int [(.int (0 : Int32)), (.int (57 : Int32)), (.int (58 : Int32)), (.int (59 : Int32)), (.int (64 : Int32)), (.int (65 : Int32)), (.int (90 : Int32)), (.int (91 : Int32)), (.int (94 : Int32)), (.int (95 : Int32)), (.int (96 : Int32)), (.int (97 : Int32)), (.int (122 : Int32)), (.int (123 : Int32)), (.int (127 : Int32)), (.int (128 : Int32)), (.int (191 : Int32)), (.int (192 : Int32)), (.int (214 : Int32)), (.int (215 : Int32)), (.int (216 : Int32)), (.int (246 : Int32)), (.int (247 : Int32)), (.int (248 : Int32)), (.int (767 : Int32)), (.int (768 : Int32)), (.int (879 : Int32)), (.int (880 : Int32)), (.int (893 : Int32)), (.int (894 : Int32)), (.int (895 : Int32)), (.int (8191 : Int32)), (.int (8192 : Int32)), (.int (8203 : Int32)), (.int (8204 : Int32)), (.int (8205 : Int32)), (.int (8206 : Int32)), (.int (8303 : Int32)), (.int (8304 : Int32)), (.int (8591 : Int32)), (.int (8592 : Int32)), (.int (11263 : Int32)), (.int (11264 : Int32)), (.int (12271 : Int32)), (.int (12272 : Int32)), (.int (12288 : Int32)), (.int (12289 : Int32)), (.int (55295 : Int32)), (.int (55296 : Int32)), (.int (63743 : Int32)), (.int (63744 : Int32)), (.int (64975 : Int32)), (.int (64976 : Int32)), (.int (0 : Int32)), (.int (0 : Int32)), (.int (0 : Int32)), (.int (0 : Int32)), (.int (0 : Int32)), (.int (0 : Int32)), (.int (0 : Int32)), (.int (0 : Int32)), (.int (0 : Int32)), (.int (0 : Int32)), (.int (0 : Int32)), (.int (0 : Int32))]) :: []) := R161
  have pre162 : ∀ t, Steps p.tables e below (T161.setTop (mkF m 347 #[.val (.int px), .val (.int qx), .val (.int ox), .val (.int dx), .unset, .unset] [(.ref b2)])) t → Steps p.tables e below (s₁.setTop (entryFrame m #[(.int px), (.int qx), (.int ox), (.int dx)] maxLocals)) t := fun t k => pre160 t (st161 t k)
  have pre163 : ∀ t, Steps p.tables e below (T161.setTop (mkF m 352 #[.val (.int px), .val (.int qx), .val (.int ox), .val (.int dx), .unset, .unset] [(.int (65007 : Int32)), (.int (53 : Int32)), (.ref b2), (.ref b2)])) t → Steps p.tables e below (s₁.setTop (entryFrame m #[(.int px), (.int qx), (.int ox), (.int dx)] maxLocals)) t := fun t k => pre162 t (by
    show Steps p.tables e below (T161.setTop (mkF m 347 #[.val (.int px), .val (.int qx), .val (.int ox), .val (.int dx), .unset, .unset] [(.ref b2)])) _
    refine XS.dup X161.here hx rfl (hb hby at_347) rfl rfl ?_
    refine XS.bipush X161.here hx rfl (hb hby at_348) ?_
    refine X161.ldcInt hx hown (mvT hZ (hw _ (List.mem_of_getElem? (i := 7) rfl))) (g := (mkF m 350 #[.val (.int px), .val (.int qx), .val (.int ox), .val (.int dx), .unset, .unset] [(.int (53 : Int32)), (.ref b2), (.ref b2)])) rfl (hb hby at_350) _ ?_
    exact k)
  obtain ⟨T164, h164, ls164, X164, e164, N164, R164, st164⟩ := gIst X161 hx hZ e161 N161 R161 0 rfl (j := (53 : Int32)) (by decide) (53) rfl (by decide) (g := (mkF m 352 #[.val (.int px), .val (.int qx), .val (.int ox), .val (.int dx), .unset, .unset] [(.int (65007 : Int32)), (.int (53 : Int32)), (.ref b2), (.ref b2)])) rfl rfl (hb hby at_352)
  replace R164 : Rep Z n0 h164 ((b2, Ar .int [(.int (0 : Int32)), (.int (57 : Int32)), (.int (58 : Int32)), (.int (59 : Int32)), (.int (64 : Int32)), (.int (65 : Int32)), (.int (90 : Int32)), (.int (91 : Int32)), (.int (94 : Int32)), (.int (95 : Int32)), (.int (96 : Int32)), (.int (97 : Int32)), (.int (122 : Int32)), (.int (123 : Int32)), (.int (127 : Int32)), (.int (128 : Int32)), (.int (191 : Int32)), (.int (192 : Int32)), (.int (214 : Int32)), (.int (215 : Int32)), (.int (216 : Int32)), (.int (246 : Int32)), (.int (247 : Int32)), (.int (248 : Int32)), (.int (767 : Int32)), (.int (768 : Int32)), (.int (879 : Int32)), (.int (880 : Int32)), (.int (893 : Int32)), (.int (894 : Int32)), (.int (895 : Int32)), (.int (8191 : Int32)), (.int (8192 : Int32)), (.int (8203 : Int32)), (.int (8204 : Int32)), (.int (8205 : Int32)), (.int (8206 : Int32)), (.int (8303 : Int32)), (.int (8304 : Int32)), (.int (8591 : Int32)), (.int (8592 : Int32)), (.int (11263 : Int32)), (.int (11264 : Int32)), (.int (12271 : Int32)), (.int (12272 : Int32)), (.int (12288 : Int32)), (.int (12289 : Int32)), (.int (55295 : Int32)), (.int (55296 : Int32)), (.int (63743 : Int32)), (.int (63744 : Int32)), (.int (64975 : Int32)), (.int (64976 : Int32)), (.int (65007 : Int32)), (.int (0 : Int32)), (.int (0 : Int32)), (.int (0 : Int32)), (.int (0 : Int32)), (.int (0 : Int32)), (.int (0 : Int32)), (.int (0 : Int32)), (.int (0 : Int32)), (.int (0 : Int32)), (.int (0 : Int32)), (.int (0 : Int32))]) :: []) := R164
  have pre165 : ∀ t, Steps p.tables e below (T164.setTop (mkF m 353 #[.val (.int px), .val (.int qx), .val (.int ox), .val (.int dx), .unset, .unset] [(.ref b2)])) t → Steps p.tables e below (s₁.setTop (entryFrame m #[(.int px), (.int qx), (.int ox), (.int dx)] maxLocals)) t := fun t k => pre163 t (st164 t k)
  have pre166 : ∀ t, Steps p.tables e below (T164.setTop (mkF m 358 #[.val (.int px), .val (.int qx), .val (.int ox), .val (.int dx), .unset, .unset] [(.int (65008 : Int32)), (.int (54 : Int32)), (.ref b2), (.ref b2)])) t → Steps p.tables e below (s₁.setTop (entryFrame m #[(.int px), (.int qx), (.int ox), (.int dx)] maxLocals)) t := fun t k => pre165 t (by
    show Steps p.tables e below (T164.setTop (mkF m 353 #[.val (.int px), .val (.int qx), .val (.int ox), .val (.int dx), .unset, .unset] [(.ref b2)])) _
    refine XS.dup X164.here hx rfl (hb hby at_353) rfl rfl ?_
    refine XS.bipush X164.here hx rfl (hb hby at_354) ?_
    refine X164.ldcInt hx hown (mvT hZ (hw _ (List.mem_of_getElem? (i := 8) rfl))) (g := (mkF m 356 #[.val (.int px), .val (.int qx), .val (.int ox), .val (.int dx), .unset, .unset] [(.int (54 : Int32)), (.ref b2), (.ref b2)])) rfl (hb hby at_356) _ ?_
    exact k)
  obtain ⟨T167, h167, ls167, X167, e167, N167, R167, st167⟩ := gIst X164 hx hZ e164 N164 R164 0 rfl (j := (54 : Int32)) (by decide) (54) rfl (by decide) (g := (mkF m 358 #[.val (.int px), .val (.int qx), .val (.int ox), .val (.int dx), .unset, .unset] [(.int (65008 : Int32)), (.int (54 : Int32)), (.ref b2), (.ref b2)])) rfl rfl (hb hby at_358)
  replace R167 : Rep Z n0 h167 ((b2, Ar .int [(.int (0 : Int32)), (.int (57 : Int32)), (.int (58 : Int32)), (.int (59 : Int32)), (.int (64 : Int32)), (.int (65 : Int32)), (.int (90 : Int32)), (.int (91 : Int32)), (.int (94 : Int32)), (.int (95 : Int32)), (.int (96 : Int32)), (.int (97 : Int32)), (.int (122 : Int32)), (.int (123 : Int32)), (.int (127 : Int32)), (.int (128 : Int32)), (.int (191 : Int32)), (.int (192 : Int32)), (.int (214 : Int32)), (.int (215 : Int32)), (.int (216 : Int32)), (.int (246 : Int32)), (.int (247 : Int32)), (.int (248 : Int32)), (.int (767 : Int32)), (.int (768 : Int32)), (.int (879 : Int32)), (.int (880 : Int32)), (.int (893 : Int32)), (.int (894 : Int32)), (.int (895 : Int32)), (.int (8191 : Int32)), (.int (8192 : Int32)), (.int (8203 : Int32)), (.int (8204 : Int32)), (.int (8205 : Int32)), (.int (8206 : Int32)), (.int (8303 : Int32)), (.int (8304 : Int32)), (.int (8591 : Int32)), (.int (8592 : Int32)), (.int (11263 : Int32)), (.int (11264 : Int32)), (.int (12271 : Int32)), (.int (12272 : Int32)), (.int (12288 : Int32)), (.int (12289 : Int32)), (.int (55295 : Int32)), (.int (55296 : Int32)), (.int (63743 : Int32)), (.int (63744 : Int32)), (.int (64975 : Int32)), (.int (64976 : Int32)), (.int (65007 : Int32)), (.int (65008 : Int32)), (.int (0 : Int32)), (.int (0 : Int32)), (.int (0 : Int32)), (.int (0 : Int32)), (.int (0 : Int32)), (.int (0 : Int32)), (.int (0 : Int32)), (.int (0 : Int32)), (.int (0 : Int32)), (.int (0 : Int32))]) :: []) := R167
  have pre168 : ∀ t, Steps p.tables e below (T167.setTop (mkF m 359 #[.val (.int px), .val (.int qx), .val (.int ox), .val (.int dx), .unset, .unset] [(.ref b2)])) t → Steps p.tables e below (s₁.setTop (entryFrame m #[(.int px), (.int qx), (.int ox), (.int dx)] maxLocals)) t := fun t k => pre166 t (st167 t k)
  have pre169 : ∀ t, Steps p.tables e below (T167.setTop (mkF m 364 #[.val (.int px), .val (.int qx), .val (.int ox), .val (.int dx), .unset, .unset] [(.int (65533 : Int32)), (.int (55 : Int32)), (.ref b2), (.ref b2)])) t → Steps p.tables e below (s₁.setTop (entryFrame m #[(.int px), (.int qx), (.int ox), (.int dx)] maxLocals)) t := fun t k => pre168 t (by
    show Steps p.tables e below (T167.setTop (mkF m 359 #[.val (.int px), .val (.int qx), .val (.int ox), .val (.int dx), .unset, .unset] [(.ref b2)])) _
    refine XS.dup X167.here hx rfl (hb hby at_359) rfl rfl ?_
    refine XS.bipush X167.here hx rfl (hb hby at_360) ?_
    refine X167.ldcInt hx hown (mvT hZ (hw _ (List.mem_of_getElem? (i := 9) rfl))) (g := (mkF m 362 #[.val (.int px), .val (.int qx), .val (.int ox), .val (.int dx), .unset, .unset] [(.int (55 : Int32)), (.ref b2), (.ref b2)])) rfl (hb hby at_362) _ ?_
    exact k)
  obtain ⟨T170, h170, ls170, X170, e170, N170, R170, st170⟩ := gIst X167 hx hZ e167 N167 R167 0 rfl (j := (55 : Int32)) (by decide) (55) rfl (by decide) (g := (mkF m 364 #[.val (.int px), .val (.int qx), .val (.int ox), .val (.int dx), .unset, .unset] [(.int (65533 : Int32)), (.int (55 : Int32)), (.ref b2), (.ref b2)])) rfl rfl (hb hby at_364)
  replace R170 : Rep Z n0 h170 ((b2, Ar .int [(.int (0 : Int32)), (.int (57 : Int32)), (.int (58 : Int32)), (.int (59 : Int32)), (.int (64 : Int32)), (.int (65 : Int32)), (.int (90 : Int32)), (.int (91 : Int32)), (.int (94 : Int32)), (.int (95 : Int32)), (.int (96 : Int32)), (.int (97 : Int32)), (.int (122 : Int32)), (.int (123 : Int32)), (.int (127 : Int32)), (.int (128 : Int32)), (.int (191 : Int32)), (.int (192 : Int32)), (.int (214 : Int32)), (.int (215 : Int32)), (.int (216 : Int32)), (.int (246 : Int32)), (.int (247 : Int32)), (.int (248 : Int32)), (.int (767 : Int32)), (.int (768 : Int32)), (.int (879 : Int32)), (.int (880 : Int32)), (.int (893 : Int32)), (.int (894 : Int32)), (.int (895 : Int32)), (.int (8191 : Int32)), (.int (8192 : Int32)), (.int (8203 : Int32)), (.int (8204 : Int32)), (.int (8205 : Int32)), (.int (8206 : Int32)), (.int (8303 : Int32)), (.int (8304 : Int32)), (.int (8591 : Int32)), (.int (8592 : Int32)), (.int (11263 : Int32)), (.int (11264 : Int32)), (.int (12271 : Int32)), (.int (12272 : Int32)), (.int (12288 : Int32)), (.int (12289 : Int32)), (.int (55295 : Int32)), (.int (55296 : Int32)), (.int (63743 : Int32)), (.int (63744 : Int32)), (.int (64975 : Int32)), (.int (64976 : Int32)), (.int (65007 : Int32)), (.int (65008 : Int32)), (.int (65533 : Int32)), (.int (0 : Int32)), (.int (0 : Int32)), (.int (0 : Int32)), (.int (0 : Int32)), (.int (0 : Int32)), (.int (0 : Int32)), (.int (0 : Int32)), (.int (0 : Int32)), (.int (0 : Int32))]) :: []) := R170
  have pre171 : ∀ t, Steps p.tables e below (T170.setTop (mkF m 365 #[.val (.int px), .val (.int qx), .val (.int ox), .val (.int dx), .unset, .unset] [(.ref b2)])) t → Steps p.tables e below (s₁.setTop (entryFrame m #[(.int px), (.int qx), (.int ox), (.int dx)] maxLocals)) t := fun t k => pre169 t (st170 t k)
  have pre172 : ∀ t, Steps p.tables e below (T170.setTop (mkF m 370 #[.val (.int px), .val (.int qx), .val (.int ox), .val (.int dx), .unset, .unset] [(.int (65534 : Int32)), (.int (56 : Int32)), (.ref b2), (.ref b2)])) t → Steps p.tables e below (s₁.setTop (entryFrame m #[(.int px), (.int qx), (.int ox), (.int dx)] maxLocals)) t := fun t k => pre171 t (by
    show Steps p.tables e below (T170.setTop (mkF m 365 #[.val (.int px), .val (.int qx), .val (.int ox), .val (.int dx), .unset, .unset] [(.ref b2)])) _
    refine XS.dup X170.here hx rfl (hb hby at_365) rfl rfl ?_
    refine XS.bipush X170.here hx rfl (hb hby at_366) ?_
    refine X170.ldcInt hx hown (mvT hZ (hw _ (List.mem_of_getElem? (i := 10) rfl))) (g := (mkF m 368 #[.val (.int px), .val (.int qx), .val (.int ox), .val (.int dx), .unset, .unset] [(.int (56 : Int32)), (.ref b2), (.ref b2)])) rfl (hb hby at_368) _ ?_
    exact k)
  obtain ⟨T173, h173, ls173, X173, e173, N173, R173, st173⟩ := gIst X170 hx hZ e170 N170 R170 0 rfl (j := (56 : Int32)) (by decide) (56) rfl (by decide) (g := (mkF m 370 #[.val (.int px), .val (.int qx), .val (.int ox), .val (.int dx), .unset, .unset] [(.int (65534 : Int32)), (.int (56 : Int32)), (.ref b2), (.ref b2)])) rfl rfl (hb hby at_370)
  replace R173 : Rep Z n0 h173 ((b2, Ar .int [(.int (0 : Int32)), (.int (57 : Int32)), (.int (58 : Int32)), (.int (59 : Int32)), (.int (64 : Int32)), (.int (65 : Int32)), (.int (90 : Int32)), (.int (91 : Int32)), (.int (94 : Int32)), (.int (95 : Int32)), (.int (96 : Int32)), (.int (97 : Int32)), (.int (122 : Int32)), (.int (123 : Int32)), (.int (127 : Int32)), (.int (128 : Int32)), (.int (191 : Int32)), (.int (192 : Int32)), (.int (214 : Int32)), (.int (215 : Int32)), (.int (216 : Int32)), (.int (246 : Int32)), (.int (247 : Int32)), (.int (248 : Int32)), (.int (767 : Int32)), (.int (768 : Int32)), (.int (879 : Int32)), (.int (880 : Int32)), (.int (893 : Int32)), (.int (894 : Int32)), (.int (895 : Int32)), (.int (8191 : Int32)), (.int (8192 : Int32)), (.int (8203 : Int32)), (.int (8204 : Int32)), (.int (8205 : Int32)), (.int (8206 : Int32)), (.int (8303 : Int32)), (.int (8304 : Int32)), (.int (8591 : Int32)), (.int (8592 : Int32)), (.int (11263 : Int32)), (.int (11264 : Int32)), (.int (12271 : Int32)), (.int (12272 : Int32)), (.int (12288 : Int32)), (.int (12289 : Int32)), (.int (55295 : Int32)), (.int (55296 : Int32)), (.int (63743 : Int32)), (.int (63744 : Int32)), (.int (64975 : Int32)), (.int (64976 : Int32)), (.int (65007 : Int32)), (.int (65008 : Int32)), (.int (65533 : Int32)), (.int (65534 : Int32)), (.int (0 : Int32)), (.int (0 : Int32)), (.int (0 : Int32)), (.int (0 : Int32)), (.int (0 : Int32)), (.int (0 : Int32)), (.int (0 : Int32)), (.int (0 : Int32))]) :: []) := R173
  have pre174 : ∀ t, Steps p.tables e below (T173.setTop (mkF m 371 #[.val (.int px), .val (.int qx), .val (.int ox), .val (.int dx), .unset, .unset] [(.ref b2)])) t → Steps p.tables e below (s₁.setTop (entryFrame m #[(.int px), (.int qx), (.int ox), (.int dx)] maxLocals)) t := fun t k => pre172 t (st173 t k)
  have pre175 : ∀ t, Steps p.tables e below (T173.setTop (mkF m 376 #[.val (.int px), .val (.int qx), .val (.int ox), .val (.int dx), .unset, .unset] [(.int (65535 : Int32)), (.int (57 : Int32)), (.ref b2), (.ref b2)])) t → Steps p.tables e below (s₁.setTop (entryFrame m #[(.int px), (.int qx), (.int ox), (.int dx)] maxLocals)) t := fun t k => pre174 t (by
    show Steps p.tables e below (T173.setTop (mkF m 371 #[.val (.int px), .val (.int qx), .val (.int ox), .val (.int dx), .unset, .unset] [(.ref b2)])) _
    refine XS.dup X173.here hx rfl (hb hby at_371) rfl rfl ?_
    refine XS.bipush X173.here hx rfl (hb hby at_372) ?_
    refine X173.ldcInt hx hown (mvT hZ (hw _ (List.mem_of_getElem? (i := 11) rfl))) (g := (mkF m 374 #[.val (.int px), .val (.int qx), .val (.int ox), .val (.int dx), .unset, .unset] [(.int (57 : Int32)), (.ref b2), (.ref b2)])) rfl (hb hby at_374) _ ?_
    exact k)
  obtain ⟨T176, h176, ls176, X176, e176, N176, R176, st176⟩ := gIst X173 hx hZ e173 N173 R173 0 rfl (j := (57 : Int32)) (by decide) (57) rfl (by decide) (g := (mkF m 376 #[.val (.int px), .val (.int qx), .val (.int ox), .val (.int dx), .unset, .unset] [(.int (65535 : Int32)), (.int (57 : Int32)), (.ref b2), (.ref b2)])) rfl rfl (hb hby at_376)
  replace R176 : Rep Z n0 h176 ((b2, Ar .int [(.int (0 : Int32)), (.int (57 : Int32)), (.int (58 : Int32)), (.int (59 : Int32)), (.int (64 : Int32)), (.int (65 : Int32)), (.int (90 : Int32)), (.int (91 : Int32)), (.int (94 : Int32)), (.int (95 : Int32)), (.int (96 : Int32)), (.int (97 : Int32)), (.int (122 : Int32)), (.int (123 : Int32)), (.int (127 : Int32)), (.int (128 : Int32)), (.int (191 : Int32)), (.int (192 : Int32)), (.int (214 : Int32)), (.int (215 : Int32)), (.int (216 : Int32)), (.int (246 : Int32)), (.int (247 : Int32)), (.int (248 : Int32)), (.int (767 : Int32)), (.int (768 : Int32)), (.int (879 : Int32)), (.int (880 : Int32)), (.int (893 : Int32)), (.int (894 : Int32)), (.int (895 : Int32)), (.int (8191 : Int32)), (.int (8192 : Int32)), (.int (8203 : Int32)), (.int (8204 : Int32)), (.int (8205 : Int32)), (.int (8206 : Int32)), (.int (8303 : Int32)), (.int (8304 : Int32)), (.int (8591 : Int32)), (.int (8592 : Int32)), (.int (11263 : Int32)), (.int (11264 : Int32)), (.int (12271 : Int32)), (.int (12272 : Int32)), (.int (12288 : Int32)), (.int (12289 : Int32)), (.int (55295 : Int32)), (.int (55296 : Int32)), (.int (63743 : Int32)), (.int (63744 : Int32)), (.int (64975 : Int32)), (.int (64976 : Int32)), (.int (65007 : Int32)), (.int (65008 : Int32)), (.int (65533 : Int32)), (.int (65534 : Int32)), (.int (65535 : Int32)), (.int (0 : Int32)), (.int (0 : Int32)), (.int (0 : Int32)), (.int (0 : Int32)), (.int (0 : Int32)), (.int (0 : Int32)), (.int (0 : Int32))]) :: []) := R176
  have pre177 : ∀ t, Steps p.tables e below (T176.setTop (mkF m 377 #[.val (.int px), .val (.int qx), .val (.int ox), .val (.int dx), .unset, .unset] [(.ref b2)])) t → Steps p.tables e below (s₁.setTop (entryFrame m #[(.int px), (.int qx), (.int ox), (.int dx)] maxLocals)) t := fun t k => pre175 t (st176 t k)
  have pre178 : ∀ t, Steps p.tables e below (T176.setTop (mkF m 382 #[.val (.int px), .val (.int qx), .val (.int ox), .val (.int dx), .unset, .unset] [(.int (65536 : Int32)), (.int (58 : Int32)), (.ref b2), (.ref b2)])) t → Steps p.tables e below (s₁.setTop (entryFrame m #[(.int px), (.int qx), (.int ox), (.int dx)] maxLocals)) t := fun t k => pre177 t (by
    show Steps p.tables e below (T176.setTop (mkF m 377 #[.val (.int px), .val (.int qx), .val (.int ox), .val (.int dx), .unset, .unset] [(.ref b2)])) _
    refine XS.dup X176.here hx rfl (hb hby at_377) rfl rfl ?_
    refine XS.bipush X176.here hx rfl (hb hby at_378) ?_
    refine X176.ldcInt hx hown (mvT hZ (hw _ (List.mem_of_getElem? (i := 12) rfl))) (g := (mkF m 380 #[.val (.int px), .val (.int qx), .val (.int ox), .val (.int dx), .unset, .unset] [(.int (58 : Int32)), (.ref b2), (.ref b2)])) rfl (hb hby at_380) _ ?_
    exact k)
  obtain ⟨T179, h179, ls179, X179, e179, N179, R179, st179⟩ := gIst X176 hx hZ e176 N176 R176 0 rfl (j := (58 : Int32)) (by decide) (58) rfl (by decide) (g := (mkF m 382 #[.val (.int px), .val (.int qx), .val (.int ox), .val (.int dx), .unset, .unset] [(.int (65536 : Int32)), (.int (58 : Int32)), (.ref b2), (.ref b2)])) rfl rfl (hb hby at_382)
  replace R179 : Rep Z n0 h179 ((b2, Ar .int [(.int (0 : Int32)), (.int (57 : Int32)), (.int (58 : Int32)), (.int (59 : Int32)), (.int (64 : Int32)), (.int (65 : Int32)), (.int (90 : Int32)), (.int (91 : Int32)), (.int (94 : Int32)), (.int (95 : Int32)), (.int (96 : Int32)), (.int (97 : Int32)), (.int (122 : Int32)), (.int (123 : Int32)), (.int (127 : Int32)), (.int (128 : Int32)), (.int (191 : Int32)), (.int (192 : Int32)), (.int (214 : Int32)), (.int (215 : Int32)), (.int (216 : Int32)), (.int (246 : Int32)), (.int (247 : Int32)), (.int (248 : Int32)), (.int (767 : Int32)), (.int (768 : Int32)), (.int (879 : Int32)), (.int (880 : Int32)), (.int (893 : Int32)), (.int (894 : Int32)), (.int (895 : Int32)), (.int (8191 : Int32)), (.int (8192 : Int32)), (.int (8203 : Int32)), (.int (8204 : Int32)), (.int (8205 : Int32)), (.int (8206 : Int32)), (.int (8303 : Int32)), (.int (8304 : Int32)), (.int (8591 : Int32)), (.int (8592 : Int32)), (.int (11263 : Int32)), (.int (11264 : Int32)), (.int (12271 : Int32)), (.int (12272 : Int32)), (.int (12288 : Int32)), (.int (12289 : Int32)), (.int (55295 : Int32)), (.int (55296 : Int32)), (.int (63743 : Int32)), (.int (63744 : Int32)), (.int (64975 : Int32)), (.int (64976 : Int32)), (.int (65007 : Int32)), (.int (65008 : Int32)), (.int (65533 : Int32)), (.int (65534 : Int32)), (.int (65535 : Int32)), (.int (65536 : Int32)), (.int (0 : Int32)), (.int (0 : Int32)), (.int (0 : Int32)), (.int (0 : Int32)), (.int (0 : Int32)), (.int (0 : Int32))]) :: []) := R179
  have pre180 : ∀ t, Steps p.tables e below (T179.setTop (mkF m 383 #[.val (.int px), .val (.int qx), .val (.int ox), .val (.int dx), .unset, .unset] [(.ref b2)])) t → Steps p.tables e below (s₁.setTop (entryFrame m #[(.int px), (.int qx), (.int ox), (.int dx)] maxLocals)) t := fun t k => pre178 t (st179 t k)
  have pre181 : ∀ t, Steps p.tables e below (T179.setTop (mkF m 388 #[.val (.int px), .val (.int qx), .val (.int ox), .val (.int dx), .unset, .unset] [(.int (983039 : Int32)), (.int (59 : Int32)), (.ref b2), (.ref b2)])) t → Steps p.tables e below (s₁.setTop (entryFrame m #[(.int px), (.int qx), (.int ox), (.int dx)] maxLocals)) t := fun t k => pre180 t (by
    show Steps p.tables e below (T179.setTop (mkF m 383 #[.val (.int px), .val (.int qx), .val (.int ox), .val (.int dx), .unset, .unset] [(.ref b2)])) _
    refine XS.dup X179.here hx rfl (hb hby at_383) rfl rfl ?_
    refine XS.bipush X179.here hx rfl (hb hby at_384) ?_
    refine X179.ldcInt hx hown (mvT hZ (hw _ (List.mem_of_getElem? (i := 13) rfl))) (g := (mkF m 386 #[.val (.int px), .val (.int qx), .val (.int ox), .val (.int dx), .unset, .unset] [(.int (59 : Int32)), (.ref b2), (.ref b2)])) rfl (hb hby at_386) _ ?_
    exact k)
  obtain ⟨T182, h182, ls182, X182, e182, N182, R182, st182⟩ := gIst X179 hx hZ e179 N179 R179 0 rfl (j := (59 : Int32)) (by decide) (59) rfl (by decide) (g := (mkF m 388 #[.val (.int px), .val (.int qx), .val (.int ox), .val (.int dx), .unset, .unset] [(.int (983039 : Int32)), (.int (59 : Int32)), (.ref b2), (.ref b2)])) rfl rfl (hb hby at_388)
  replace R182 : Rep Z n0 h182 ((b2, Ar .int [(.int (0 : Int32)), (.int (57 : Int32)), (.int (58 : Int32)), (.int (59 : Int32)), (.int (64 : Int32)), (.int (65 : Int32)), (.int (90 : Int32)), (.int (91 : Int32)), (.int (94 : Int32)), (.int (95 : Int32)), (.int (96 : Int32)), (.int (97 : Int32)), (.int (122 : Int32)), (.int (123 : Int32)), (.int (127 : Int32)), (.int (128 : Int32)), (.int (191 : Int32)), (.int (192 : Int32)), (.int (214 : Int32)), (.int (215 : Int32)), (.int (216 : Int32)), (.int (246 : Int32)), (.int (247 : Int32)), (.int (248 : Int32)), (.int (767 : Int32)), (.int (768 : Int32)), (.int (879 : Int32)), (.int (880 : Int32)), (.int (893 : Int32)), (.int (894 : Int32)), (.int (895 : Int32)), (.int (8191 : Int32)), (.int (8192 : Int32)), (.int (8203 : Int32)), (.int (8204 : Int32)), (.int (8205 : Int32)), (.int (8206 : Int32)), (.int (8303 : Int32)), (.int (8304 : Int32)), (.int (8591 : Int32)), (.int (8592 : Int32)), (.int (11263 : Int32)), (.int (11264 : Int32)), (.int (12271 : Int32)), (.int (12272 : Int32)), (.int (12288 : Int32)), (.int (12289 : Int32)), (.int (55295 : Int32)), (.int (55296 : Int32)), (.int (63743 : Int32)), (.int (63744 : Int32)), (.int (64975 : Int32)), (.int (64976 : Int32)), (.int (65007 : Int32)), (.int (65008 : Int32)), (.int (65533 : Int32)), (.int (65534 : Int32)), (.int (65535 : Int32)), (.int (65536 : Int32)), (.int (983039 : Int32)), (.int (0 : Int32)), (.int (0 : Int32)), (.int (0 : Int32)), (.int (0 : Int32)), (.int (0 : Int32))]) :: []) := R182
  have pre183 : ∀ t, Steps p.tables e below (T182.setTop (mkF m 389 #[.val (.int px), .val (.int qx), .val (.int ox), .val (.int dx), .unset, .unset] [(.ref b2)])) t → Steps p.tables e below (s₁.setTop (entryFrame m #[(.int px), (.int qx), (.int ox), (.int dx)] maxLocals)) t := fun t k => pre181 t (st182 t k)
  have pre184 : ∀ t, Steps p.tables e below (T182.setTop (mkF m 394 #[.val (.int px), .val (.int qx), .val (.int ox), .val (.int dx), .unset, .unset] [(.int (983040 : Int32)), (.int (60 : Int32)), (.ref b2), (.ref b2)])) t → Steps p.tables e below (s₁.setTop (entryFrame m #[(.int px), (.int qx), (.int ox), (.int dx)] maxLocals)) t := fun t k => pre183 t (by
    show Steps p.tables e below (T182.setTop (mkF m 389 #[.val (.int px), .val (.int qx), .val (.int ox), .val (.int dx), .unset, .unset] [(.ref b2)])) _
    refine XS.dup X182.here hx rfl (hb hby at_389) rfl rfl ?_
    refine XS.bipush X182.here hx rfl (hb hby at_390) ?_
    refine X182.ldcInt hx hown (mvT hZ (hw _ (List.mem_of_getElem? (i := 14) rfl))) (g := (mkF m 392 #[.val (.int px), .val (.int qx), .val (.int ox), .val (.int dx), .unset, .unset] [(.int (60 : Int32)), (.ref b2), (.ref b2)])) rfl (hb hby at_392) _ ?_
    exact k)
  obtain ⟨T185, h185, ls185, X185, e185, N185, R185, st185⟩ := gIst X182 hx hZ e182 N182 R182 0 rfl (j := (60 : Int32)) (by decide) (60) rfl (by decide) (g := (mkF m 394 #[.val (.int px), .val (.int qx), .val (.int ox), .val (.int dx), .unset, .unset] [(.int (983040 : Int32)), (.int (60 : Int32)), (.ref b2), (.ref b2)])) rfl rfl (hb hby at_394)
  replace R185 : Rep Z n0 h185 ((b2, Ar .int [(.int (0 : Int32)), (.int (57 : Int32)), (.int (58 : Int32)), (.int (59 : Int32)), (.int (64 : Int32)), (.int (65 : Int32)), (.int (90 : Int32)), (.int (91 : Int32)), (.int (94 : Int32)), (.int (95 : Int32)), (.int (96 : Int32)), (.int (97 : Int32)), (.int (122 : Int32)), (.int (123 : Int32)), (.int (127 : Int32)), (.int (128 : Int32)), (.int (191 : Int32)), (.int (192 : Int32)), (.int (214 : Int32)), (.int (215 : Int32)), (.int (216 : Int32)), (.int (246 : Int32)), (.int (247 : Int32)), (.int (248 : Int32)), (.int (767 : Int32)), (.int (768 : Int32)), (.int (879 : Int32)), (.int (880 : Int32)), (.int (893 : Int32)), (.int (894 : Int32)), (.int (895 : Int32)), (.int (8191 : Int32)), (.int (8192 : Int32)), (.int (8203 : Int32)), (.int (8204 : Int32)), (.int (8205 : Int32)), (.int (8206 : Int32)), (.int (8303 : Int32)), (.int (8304 : Int32)), (.int (8591 : Int32)), (.int (8592 : Int32)), (.int (11263 : Int32)), (.int (11264 : Int32)), (.int (12271 : Int32)), (.int (12272 : Int32)), (.int (12288 : Int32)), (.int (12289 : Int32)), (.int (55295 : Int32)), (.int (55296 : Int32)), (.int (63743 : Int32)), (.int (63744 : Int32)), (.int (64975 : Int32)), (.int (64976 : Int32)), (.int (65007 : Int32)), (.int (65008 : Int32)), (.int (65533 : Int32)), (.int (65534 : Int32)), (.int (65535 : Int32)), (.int (65536 : Int32)), (.int (983039 : Int32)), (.int (983040 : Int32)), (.int (0 : Int32)), (.int (0 : Int32)), (.int (0 : Int32)), (.int (0 : Int32))]) :: []) := R185
  have pre186 : ∀ t, Steps p.tables e below (T185.setTop (mkF m 395 #[.val (.int px), .val (.int qx), .val (.int ox), .val (.int dx), .unset, .unset] [(.ref b2)])) t → Steps p.tables e below (s₁.setTop (entryFrame m #[(.int px), (.int qx), (.int ox), (.int dx)] maxLocals)) t := fun t k => pre184 t (st185 t k)
  have pre187 : ∀ t, Steps p.tables e below (T185.setTop (mkF m 400 #[.val (.int px), .val (.int qx), .val (.int ox), .val (.int dx), .unset, .unset] [(.int (1114111 : Int32)), (.int (61 : Int32)), (.ref b2), (.ref b2)])) t → Steps p.tables e below (s₁.setTop (entryFrame m #[(.int px), (.int qx), (.int ox), (.int dx)] maxLocals)) t := fun t k => pre186 t (by
    show Steps p.tables e below (T185.setTop (mkF m 395 #[.val (.int px), .val (.int qx), .val (.int ox), .val (.int dx), .unset, .unset] [(.ref b2)])) _
    refine XS.dup X185.here hx rfl (hb hby at_395) rfl rfl ?_
    refine XS.bipush X185.here hx rfl (hb hby at_396) ?_
    refine X185.ldcInt hx hown (mvT hZ (hw _ (List.mem_of_getElem? (i := 15) rfl))) (g := (mkF m 398 #[.val (.int px), .val (.int qx), .val (.int ox), .val (.int dx), .unset, .unset] [(.int (61 : Int32)), (.ref b2), (.ref b2)])) rfl (hb hby at_398) _ ?_
    exact k)
  obtain ⟨T188, h188, ls188, X188, e188, N188, R188, st188⟩ := gIst X185 hx hZ e185 N185 R185 0 rfl (j := (61 : Int32)) (by decide) (61) rfl (by decide) (g := (mkF m 400 #[.val (.int px), .val (.int qx), .val (.int ox), .val (.int dx), .unset, .unset] [(.int (1114111 : Int32)), (.int (61 : Int32)), (.ref b2), (.ref b2)])) rfl rfl (hb hby at_400)
  replace R188 : Rep Z n0 h188 ((b2, Ar .int [(.int (0 : Int32)), (.int (57 : Int32)), (.int (58 : Int32)), (.int (59 : Int32)), (.int (64 : Int32)), (.int (65 : Int32)), (.int (90 : Int32)), (.int (91 : Int32)), (.int (94 : Int32)), (.int (95 : Int32)), (.int (96 : Int32)), (.int (97 : Int32)), (.int (122 : Int32)), (.int (123 : Int32)), (.int (127 : Int32)), (.int (128 : Int32)), (.int (191 : Int32)), (.int (192 : Int32)), (.int (214 : Int32)), (.int (215 : Int32)), (.int (216 : Int32)), (.int (246 : Int32)), (.int (247 : Int32)), (.int (248 : Int32)), (.int (767 : Int32)), (.int (768 : Int32)), (.int (879 : Int32)), (.int (880 : Int32)), (.int (893 : Int32)), (.int (894 : Int32)), (.int (895 : Int32)), (.int (8191 : Int32)), (.int (8192 : Int32)), (.int (8203 : Int32)), (.int (8204 : Int32)), (.int (8205 : Int32)), (.int (8206 : Int32)), (.int (8303 : Int32)), (.int (8304 : Int32)), (.int (8591 : Int32)), (.int (8592 : Int32)), (.int (11263 : Int32)), (.int (11264 : Int32)), (.int (12271 : Int32)), (.int (12272 : Int32)), (.int (12288 : Int32)), (.int (12289 : Int32)), (.int (55295 : Int32)), (.int (55296 : Int32)), (.int (63743 : Int32)), (.int (63744 : Int32)), (.int (64975 : Int32)), (.int (64976 : Int32)), (.int (65007 : Int32)), (.int (65008 : Int32)), (.int (65533 : Int32)), (.int (65534 : Int32)), (.int (65535 : Int32)), (.int (65536 : Int32)), (.int (983039 : Int32)), (.int (983040 : Int32)), (.int (1114111 : Int32)), (.int (0 : Int32)), (.int (0 : Int32)), (.int (0 : Int32))]) :: []) := R188
  have pre189 : ∀ t, Steps p.tables e below (T188.setTop (mkF m 401 #[.val (.int px), .val (.int qx), .val (.int ox), .val (.int dx), .unset, .unset] [(.ref b2)])) t → Steps p.tables e below (s₁.setTop (entryFrame m #[(.int px), (.int qx), (.int ox), (.int dx)] maxLocals)) t := fun t k => pre187 t (st188 t k)
  have pre190 : ∀ t, Steps p.tables e below (T188.setTop (mkF m 406 #[.val (.int px), .val (.int qx), .val (.int ox), .val (.int dx), .unset, .unset] [(.int (1114112 : Int32)), (.int (62 : Int32)), (.ref b2), (.ref b2)])) t → Steps p.tables e below (s₁.setTop (entryFrame m #[(.int px), (.int qx), (.int ox), (.int dx)] maxLocals)) t := fun t k => pre189 t (by
    show Steps p.tables e below (T188.setTop (mkF m 401 #[.val (.int px), .val (.int qx), .val (.int ox), .val (.int dx), .unset, .unset] [(.ref b2)])) _
    refine XS.dup X188.here hx rfl (hb hby at_401) rfl rfl ?_
    refine XS.bipush X188.here hx rfl (hb hby at_402) ?_
    refine X188.ldcInt hx hown (mvT hZ (hw _ (List.mem_of_getElem? (i := 16) rfl))) (g := (mkF m 404 #[.val (.int px), .val (.int qx), .val (.int ox), .val (.int dx), .unset, .unset] [(.int (62 : Int32)), (.ref b2), (.ref b2)])) rfl (hb hby at_404) _ ?_
    exact k)
  obtain ⟨T191, h191, ls191, X191, e191, N191, R191, st191⟩ := gIst X188 hx hZ e188 N188 R188 0 rfl (j := (62 : Int32)) (by decide) (62) rfl (by decide) (g := (mkF m 406 #[.val (.int px), .val (.int qx), .val (.int ox), .val (.int dx), .unset, .unset] [(.int (1114112 : Int32)), (.int (62 : Int32)), (.ref b2), (.ref b2)])) rfl rfl (hb hby at_406)
  replace R191 : Rep Z n0 h191 ((b2, Ar .int [(.int (0 : Int32)), (.int (57 : Int32)), (.int (58 : Int32)), (.int (59 : Int32)), (.int (64 : Int32)), (.int (65 : Int32)), (.int (90 : Int32)), (.int (91 : Int32)), (.int (94 : Int32)), (.int (95 : Int32)), (.int (96 : Int32)), (.int (97 : Int32)), (.int (122 : Int32)), (.int (123 : Int32)), (.int (127 : Int32)), (.int (128 : Int32)), (.int (191 : Int32)), (.int (192 : Int32)), (.int (214 : Int32)), (.int (215 : Int32)), (.int (216 : Int32)), (.int (246 : Int32)), (.int (247 : Int32)), (.int (248 : Int32)), (.int (767 : Int32)), (.int (768 : Int32)), (.int (879 : Int32)), (.int (880 : Int32)), (.int (893 : Int32)), (.int (894 : Int32)), (.int (895 : Int32)), (.int (8191 : Int32)), (.int (8192 : Int32)), (.int (8203 : Int32)), (.int (8204 : Int32)), (.int (8205 : Int32)), (.int (8206 : Int32)), (.int (8303 : Int32)), (.int (8304 : Int32)), (.int (8591 : Int32)), (.int (8592 : Int32)), (.int (11263 : Int32)), (.int (11264 : Int32)), (.int (12271 : Int32)), (.int (12272 : Int32)), (.int (12288 : Int32)), (.int (12289 : Int32)), (.int (55295 : Int32)), (.int (55296 : Int32)), (.int (63743 : Int32)), (.int (63744 : Int32)), (.int (64975 : Int32)), (.int (64976 : Int32)), (.int (65007 : Int32)), (.int (65008 : Int32)), (.int (65533 : Int32)), (.int (65534 : Int32)), (.int (65535 : Int32)), (.int (65536 : Int32)), (.int (983039 : Int32)), (.int (983040 : Int32)), (.int (1114111 : Int32)), (.int (1114112 : Int32)), (.int (0 : Int32)), (.int (0 : Int32))]) :: []) := R191
  have pre192 : ∀ t, Steps p.tables e below (T191.setTop (mkF m 407 #[.val (.int px), .val (.int qx), .val (.int ox), .val (.int dx), .unset, .unset] [(.ref b2)])) t → Steps p.tables e below (s₁.setTop (entryFrame m #[(.int px), (.int qx), (.int ox), (.int dx)] maxLocals)) t := fun t k => pre190 t (st191 t k)
  have pre193 : ∀ t, Steps p.tables e below (T191.setTop (mkF m 412 #[.val (.int px), .val (.int qx), .val (.int ox), .val (.int dx), .unset, .unset] [(.int (-2147483648 : Int32)), (.int (63 : Int32)), (.ref b2), (.ref b2)])) t → Steps p.tables e below (s₁.setTop (entryFrame m #[(.int px), (.int qx), (.int ox), (.int dx)] maxLocals)) t := fun t k => pre192 t (by
    show Steps p.tables e below (T191.setTop (mkF m 407 #[.val (.int px), .val (.int qx), .val (.int ox), .val (.int dx), .unset, .unset] [(.ref b2)])) _
    refine XS.dup X191.here hx rfl (hb hby at_407) rfl rfl ?_
    refine XS.bipush X191.here hx rfl (hb hby at_408) ?_
    refine X191.ldcInt hx hown (mvT hZ (hw _ (List.mem_of_getElem? (i := 17) rfl))) (g := (mkF m 410 #[.val (.int px), .val (.int qx), .val (.int ox), .val (.int dx), .unset, .unset] [(.int (63 : Int32)), (.ref b2), (.ref b2)])) rfl (hb hby at_410) _ ?_
    exact k)
  obtain ⟨T194, h194, ls194, X194, e194, N194, R194, st194⟩ := gIst X191 hx hZ e191 N191 R191 0 rfl (j := (63 : Int32)) (by decide) (63) rfl (by decide) (g := (mkF m 412 #[.val (.int px), .val (.int qx), .val (.int ox), .val (.int dx), .unset, .unset] [(.int (-2147483648 : Int32)), (.int (63 : Int32)), (.ref b2), (.ref b2)])) rfl rfl (hb hby at_412)
  replace R194 : Rep Z n0 h194 ((b2, Ar .int [(.int (0 : Int32)), (.int (57 : Int32)), (.int (58 : Int32)), (.int (59 : Int32)), (.int (64 : Int32)), (.int (65 : Int32)), (.int (90 : Int32)), (.int (91 : Int32)), (.int (94 : Int32)), (.int (95 : Int32)), (.int (96 : Int32)), (.int (97 : Int32)), (.int (122 : Int32)), (.int (123 : Int32)), (.int (127 : Int32)), (.int (128 : Int32)), (.int (191 : Int32)), (.int (192 : Int32)), (.int (214 : Int32)), (.int (215 : Int32)), (.int (216 : Int32)), (.int (246 : Int32)), (.int (247 : Int32)), (.int (248 : Int32)), (.int (767 : Int32)), (.int (768 : Int32)), (.int (879 : Int32)), (.int (880 : Int32)), (.int (893 : Int32)), (.int (894 : Int32)), (.int (895 : Int32)), (.int (8191 : Int32)), (.int (8192 : Int32)), (.int (8203 : Int32)), (.int (8204 : Int32)), (.int (8205 : Int32)), (.int (8206 : Int32)), (.int (8303 : Int32)), (.int (8304 : Int32)), (.int (8591 : Int32)), (.int (8592 : Int32)), (.int (11263 : Int32)), (.int (11264 : Int32)), (.int (12271 : Int32)), (.int (12272 : Int32)), (.int (12288 : Int32)), (.int (12289 : Int32)), (.int (55295 : Int32)), (.int (55296 : Int32)), (.int (63743 : Int32)), (.int (63744 : Int32)), (.int (64975 : Int32)), (.int (64976 : Int32)), (.int (65007 : Int32)), (.int (65008 : Int32)), (.int (65533 : Int32)), (.int (65534 : Int32)), (.int (65535 : Int32)), (.int (65536 : Int32)), (.int (983039 : Int32)), (.int (983040 : Int32)), (.int (1114111 : Int32)), (.int (1114112 : Int32)), (.int (-2147483648 : Int32)), (.int (0 : Int32))]) :: []) := R194
  have pre195 : ∀ t, Steps p.tables e below (T194.setTop (mkF m 413 #[.val (.int px), .val (.int qx), .val (.int ox), .val (.int dx), .unset, .unset] [(.ref b2)])) t → Steps p.tables e below (s₁.setTop (entryFrame m #[(.int px), (.int qx), (.int ox), (.int dx)] maxLocals)) t := fun t k => pre193 t (st194 t k)
  have pre196 : ∀ t, Steps p.tables e below (T194.setTop (mkF m 418 #[.val (.int px), .val (.int qx), .val (.int ox), .val (.int dx), .unset, .unset] [(.int (2147483647 : Int32)), (.int (64 : Int32)), (.ref b2), (.ref b2)])) t → Steps p.tables e below (s₁.setTop (entryFrame m #[(.int px), (.int qx), (.int ox), (.int dx)] maxLocals)) t := fun t k => pre195 t (by
    show Steps p.tables e below (T194.setTop (mkF m 413 #[.val (.int px), .val (.int qx), .val (.int ox), .val (.int dx), .unset, .unset] [(.ref b2)])) _
    refine XS.dup X194.here hx rfl (hb hby at_413) rfl rfl ?_
    refine XS.bipush X194.here hx rfl (hb hby at_414) ?_
    refine X194.ldcInt hx hown (mvT hZ (hw _ (List.mem_of_getElem? (i := 18) rfl))) (g := (mkF m 416 #[.val (.int px), .val (.int qx), .val (.int ox), .val (.int dx), .unset, .unset] [(.int (64 : Int32)), (.ref b2), (.ref b2)])) rfl (hb hby at_416) _ ?_
    exact k)
  obtain ⟨T197, h197, ls197, X197, e197, N197, R197, st197⟩ := gIst X194 hx hZ e194 N194 R194 0 rfl (j := (64 : Int32)) (by decide) (64) rfl (by decide) (g := (mkF m 418 #[.val (.int px), .val (.int qx), .val (.int ox), .val (.int dx), .unset, .unset] [(.int (2147483647 : Int32)), (.int (64 : Int32)), (.ref b2), (.ref b2)])) rfl rfl (hb hby at_418)
  replace R197 : Rep Z n0 h197 ((b2, Ar .int [(.int (0 : Int32)), (.int (57 : Int32)), (.int (58 : Int32)), (.int (59 : Int32)), (.int (64 : Int32)), (.int (65 : Int32)), (.int (90 : Int32)), (.int (91 : Int32)), (.int (94 : Int32)), (.int (95 : Int32)), (.int (96 : Int32)), (.int (97 : Int32)), (.int (122 : Int32)), (.int (123 : Int32)), (.int (127 : Int32)), (.int (128 : Int32)), (.int (191 : Int32)), (.int (192 : Int32)), (.int (214 : Int32)), (.int (215 : Int32)), (.int (216 : Int32)), (.int (246 : Int32)), (.int (247 : Int32)), (.int (248 : Int32)), (.int (767 : Int32)), (.int (768 : Int32)), (.int (879 : Int32)), (.int (880 : Int32)), (.int (893 : Int32)), (.int (894 : Int32)), (.int (895 : Int32)), (.int (8191 : Int32)), (.int (8192 : Int32)), (.int (8203 : Int32)), (.int (8204 : Int32)), (.int (8205 : Int32)), (.int (8206 : Int32)), (.int (8303 : Int32)), (.int (8304 : Int32)), (.int (8591 : Int32)), (.int (8592 : Int32)), (.int (11263 : Int32)), (.int (11264 : Int32)), (.int (12271 : Int32)), (.int (12272 : Int32)), (.int (12288 : Int32)), (.int (12289 : Int32)), (.int (55295 : Int32)), (.int (55296 : Int32)), (.int (63743 : Int32)), (.int (63744 : Int32)), (.int (64975 : Int32)), (.int (64976 : Int32)), (.int (65007 : Int32)), (.int (65008 : Int32)), (.int (65533 : Int32)), (.int (65534 : Int32)), (.int (65535 : Int32)), (.int (65536 : Int32)), (.int (983039 : Int32)), (.int (983040 : Int32)), (.int (1114111 : Int32)), (.int (1114112 : Int32)), (.int (-2147483648 : Int32)), (.int (2147483647 : Int32))]) :: []) := R197
  have pre198 : ∀ t, Steps p.tables e below (T197.setTop (mkF m 419 #[.val (.int px), .val (.int qx), .val (.int ox), .val (.int dx), .unset, .unset] [(.ref b2)])) t → Steps p.tables e below (s₁.setTop (entryFrame m #[(.int px), (.int qx), (.int ox), (.int dx)] maxLocals)) t := fun t k => pre196 t (st197 t k)
  have pre200 : ∀ t, Steps p.tables e below (T197.setTop (mkF m 424 #[.val (.int px), .val (.int qx), .val (.int ox), .val (.int dx), .val (.ref b2), .unset] [(.int (dx &&& (1 : Int32)))])) t → Steps p.tables e below (s₁.setTop (entryFrame m #[(.int px), (.int qx), (.int ox), (.int dx)] maxLocals)) t := fun t k => pre198 t (by
    show Steps p.tables e below (T197.setTop (mkF m 419 #[.val (.int px), .val (.int qx), .val (.int ox), .val (.int dx), .unset, .unset] [(.ref b2)])) _
    refine XS.astore X197.here hx rfl (hb hby at_419) rfl rfl (l' := #[.val (.int px), .val (.int qx), .val (.int ox), .val (.int dx), .val (.ref b2), .unset]) rfl ?_
    refine XS.iloadN X197.here hx rfl (hb hby at_421) rfl ?_
    refine XS.iconst X197.here hx rfl (hb hby at_422) ?_
    refine XS.iand X197.here hx rfl (hb hby at_423) rfl ?_
    exact k)
  by_cases hb202 : (dx &&& (1 : Int32)) = (0 : Int32)
  · have pre203 : ∀ t, Steps p.tables e below (T197.setTop (mkF m 433 #[.val (.int px), .val (.int qx), .val (.int ox), .val (.int dx), .val (.ref b2), .unset] [])) t → Steps p.tables e below (s₁.setTop (entryFrame m #[(.int px), (.int qx), (.int ox), (.int dx)] maxLocals)) t := fun t k => pre200 t (by show Steps p.tables e below (T197.setTop (mkF m 424 #[.val (.int px), .val (.int qx), .val (.int ox), .val (.int dx), .val (.ref b2), .unset] [(.int (dx &&& (1 : Int32)))])) _; refine XS.ifYes X197.here hx rfl (pc0 := 424) (pc' := 433) rfl (hb hby at_424) rfl ((if0 _ _).trans (teq hb202).1) (by decide) (by decide) ?_; exact k)
    obtain ⟨wq, hwq⟩ := own_get [(0 : Int32), (57 : Int32), (58 : Int32), (59 : Int32), (64 : Int32), (65 : Int32), (90 : Int32), (91 : Int32), (94 : Int32), (95 : Int32), (96 : Int32), (97 : Int32), (122 : Int32), (123 : Int32), (127 : Int32), (128 : Int32), (191 : Int32), (192 : Int32), (214 : Int32), (215 : Int32), (216 : Int32), (246 : Int32), (247 : Int32), (248 : Int32), (767 : Int32), (768 : Int32), (879 : Int32), (880 : Int32), (893 : Int32), (894 : Int32), (895 : Int32), (8191 : Int32), (8192 : Int32), (8203 : Int32), (8204 : Int32), (8205 : Int32), (8206 : Int32), (8303 : Int32), (8304 : Int32), (8591 : Int32), (8592 : Int32), (11263 : Int32), (11264 : Int32), (12271 : Int32), (12272 : Int32), (12288 : Int32), (12289 : Int32), (55295 : Int32), (55296 : Int32), (63743 : Int32), (63744 : Int32), (64975 : Int32), (64976 : Int32), (65007 : Int32), (65008 : Int32), (65533 : Int32), (65534 : Int32), (65535 : Int32), (65536 : Int32), (983039 : Int32), (983040 : Int32), (1114111 : Int32), (1114112 : Int32), (-2147483648 : Int32), (2147483647 : Int32)] (((qx &&& (2147483647 : Int32)) % (65 : Int32))).toNatClampNeg (own_ix _).2
    have pre205 : ∀ t, Steps p.tables e below (T197.setTop (mkF m 452 #[.val (.int px), .val (.int qx), .val (.int ox), .val (.int dx), .val (.ref b2), .val (.int (wq + ((ox &&& (3 : Int32)) - (1 : Int32))))] [])) t → Steps p.tables e below (s₁.setTop (entryFrame m #[(.int px), (.int qx), (.int ox), (.int dx)] maxLocals)) t := fun t k => pre203 t (by
      show Steps p.tables e below (T197.setTop (mkF m 433 #[.val (.int px), .val (.int qx), .val (.int ox), .val (.int dx), .val (.ref b2), .unset] [])) _
      refine XS.aload X197.here hx rfl (hb hby at_433) rfl rfl ?_
      refine XS.iloadN X197.here hx rfl (hb hby at_435) rfl ?_
      refine X197.ldcInt hx hown (mvT hZ (hw _ (List.mem_of_getElem? (i := 18) rfl))) (g := (mkF m 436 #[.val (.int px), .val (.int qx), .val (.int ox), .val (.int dx), .val (.ref b2), .unset] [(.int qx), (.ref b2)])) rfl (hb hby at_436) _ ?_
      refine XS.iand X197.here hx rfl (hb hby at_438) rfl ?_
      refine XS.aload X197.here hx rfl (hb hby at_439) rfl rfl ?_
      refine gLen X197 hx hZ e197 R197 0 rfl (g := (mkF m 441 #[.val (.int px), .val (.int qx), .val (.int ox), .val (.int dx), .val (.ref b2), .unset] [(.ref b2), (.int (qx &&& (2147483647 : Int32))), (.ref b2)])) rfl rfl (hb hby at_441) (z := (65 : Int32)) (rfl) _ ?_
      refine iremM X197 hx rfl (hb hby at_442) rfl (by decide) ?_
      show Steps p.tables e below (T197.setTop (mkF m 443 #[.val (.int px), .val (.int qx), .val (.int ox), .val (.int dx), .val (.ref b2), .unset] [(.int ((qx &&& (2147483647 : Int32)) % (65 : Int32))), (.ref b2)])) _
      refine gIald X197 hx hZ e197 R197 0 rfl (j := ((qx &&& (2147483647 : Int32)) % (65 : Int32))) (v := (.int wq)) ((own_ix _).1) (hwq) (g := (mkF m 443 #[.val (.int px), .val (.int qx), .val (.int ox), .val (.int dx), .val (.ref b2), .unset] [(.int ((qx &&& (2147483647 : Int32)) % (65 : Int32))), (.ref b2)])) rfl rfl (hb hby at_443) _ ?_
      refine XS.iloadN X197.here hx rfl (hb hby at_444) rfl ?_
      refine XS.iconst X197.here hx rfl (hb hby at_445) ?_
      refine XS.iand X197.here hx rfl (hb hby at_446) rfl ?_
      refine XS.iconst X197.here hx rfl (hb hby at_447) ?_
      refine XS.isub X197.here hx rfl (hb hby at_448) rfl ?_
      refine XS.iadd X197.here hx rfl (hb hby at_449) rfl ?_
      show Steps p.tables e below (T197.setTop (mkF m 450 #[.val (.int px), .val (.int qx), .val (.int ox), .val (.int dx), .val (.ref b2), .unset] [(.int (wq + ((ox &&& (3 : Int32)) - (1 : Int32))))])) _
      refine XS.istore X197.here hx rfl (hb hby at_450) rfl (l' := #[.val (.int px), .val (.int qx), .val (.int ox), .val (.int dx), .val (.ref b2), .val (.int (wq + ((ox &&& (3 : Int32)) - (1 : Int32))))]) rfl ?_
      exact k)
    obtain ⟨v204, hv204⟩ : ∃ z : Int32, z = (wq + ((ox &&& (3 : Int32)) - (1 : Int32))) := ⟨_, rfl⟩
    rw [← hv204] at pre205
    have pre206 : ∀ t, Steps p.tables e below (T197.setTop (mkF m 454 #[.val (.int px), .val (.int qx), .val (.int ox), .val (.int dx), .val (.ref b2), .val (.int v204)] [(.int v204)])) t → Steps p.tables e below (s₁.setTop (entryFrame m #[(.int px), (.int qx), (.int ox), (.int dx)] maxLocals)) t := fun t k => pre205 t (by
      show Steps p.tables e below (T197.setTop (mkF m 452 #[.val (.int px), .val (.int qx), .val (.int ox), .val (.int dx), .val (.ref b2), .val (.int v204)] [])) _
      refine XS.iload X197.here hx rfl (hb hby at_452) rfl ?_
      exact k)
    obtain ⟨_, _, ⟨T207, L207, k207, n207⟩, -, X207, ⟨Lc207, hQ207, l207, y207, z207⟩, st207⟩ := Jvm.LawKit.callS X197 hx (y := (⟨"com/example/taggen/taggen/XmlChars", "isNameStartChar", "(I)Z"⟩ : MethodName)) hown (mvT hZ (hw _ (List.mem_of_getElem? (i := 19) rfl))) (mvT hZ (hw _ (List.mem_of_getElem? (i := 20) rfl))) (mvT hZ (hw _ (List.mem_of_getElem? (i := 21) rfl))) (mvT hZ (hw _ (List.mem_of_getElem? (i := 22) rfl))) (by decide) (backOf (W := 0) (rm1 l Z a0 hw [] v204  h197 n0 _ R197 ) hZ (hw _ (List.mem_of_getElem? (i := 22) rfl)) (hw _ (List.mem_of_getElem? (i := 21) rfl)) (by decide) (by decide)) (g := (mkF m 454 #[.val (.int px), .val (.int qx), .val (.int ox), .val (.int dx), .val (.ref b2), .val (.int v204)] [(.int v204)])) rfl (by rw [hml]; rfl) (argsL := [(.int v204)]) (rest := []) (lenOf pd__28I_29Z rfl) rfl (by show 2 * 0 + _ ≤ _; exact Nat.le_of_eq rfl) (hb hby at_454) (fun _ _ => ⟨rfl, e197, (by decide : 1 + 0 ≤ _), (by decide : 65 + 0 ≤ _)⟩)
    dsimp only [Pt.U, Pt.locs, Pt.cells, Pt.slots] at X207 l207 y207 z207 st207 hQ207
    subst l207 y207 z207
    obtain ⟨rfl, N207q, R207⟩ := hQ207
    have N207 := Fr.app N197 N207q
    replace R207 : Rep Z n0 T207.heap ((b2, Ar .int [(.int (0 : Int32)), (.int (57 : Int32)), (.int (58 : Int32)), (.int (59 : Int32)), (.int (64 : Int32)), (.int (65 : Int32)), (.int (90 : Int32)), (.int (91 : Int32)), (.int (94 : Int32)), (.int (95 : Int32)), (.int (96 : Int32)), (.int (97 : Int32)), (.int (122 : Int32)), (.int (123 : Int32)), (.int (127 : Int32)), (.int (128 : Int32)), (.int (191 : Int32)), (.int (192 : Int32)), (.int (214 : Int32)), (.int (215 : Int32)), (.int (216 : Int32)), (.int (246 : Int32)), (.int (247 : Int32)), (.int (248 : Int32)), (.int (767 : Int32)), (.int (768 : Int32)), (.int (879 : Int32)), (.int (880 : Int32)), (.int (893 : Int32)), (.int (894 : Int32)), (.int (895 : Int32)), (.int (8191 : Int32)), (.int (8192 : Int32)), (.int (8203 : Int32)), (.int (8204 : Int32)), (.int (8205 : Int32)), (.int (8206 : Int32)), (.int (8303 : Int32)), (.int (8304 : Int32)), (.int (8591 : Int32)), (.int (8592 : Int32)), (.int (11263 : Int32)), (.int (11264 : Int32)), (.int (12271 : Int32)), (.int (12272 : Int32)), (.int (12288 : Int32)), (.int (12289 : Int32)), (.int (55295 : Int32)), (.int (55296 : Int32)), (.int (63743 : Int32)), (.int (63744 : Int32)), (.int (64975 : Int32)), (.int (64976 : Int32)), (.int (65007 : Int32)), (.int (65008 : Int32)), (.int (65533 : Int32)), (.int (65534 : Int32)), (.int (65535 : Int32)), (.int (65536 : Int32)), (.int (983039 : Int32)), (.int (983040 : Int32)), (.int (1114111 : Int32)), (.int (1114112 : Int32)), (.int (-2147483648 : Int32)), (.int (2147483647 : Int32))]) :: []) := R207
    have pre208 : ∀ t, Steps p.tables e below (T207.setTop (mkF m 457 #[.val (.int px), .val (.int qx), .val (.int ox), .val (.int dx), .val (.ref b2), .val (.int v204)] [(.int (F1 v204))])) t → Steps p.tables e below (s₁.setTop (entryFrame m #[(.int px), (.int qx), (.int ox), (.int dx)] maxLocals)) t := fun t k => pre206 t (st207 t k)
    have pre209 : ∀ t, Steps p.tables e below (T207.setTop (mkF m 459 #[.val (.int px), .val (.int qx), .val (.int ox), .val (.int dx), .val (.ref b2), .val (.int v204)] [(.int v204), (.int (F1 v204))])) t → Steps p.tables e below (s₁.setTop (entryFrame m #[(.int px), (.int qx), (.int ox), (.int dx)] maxLocals)) t := fun t k => pre208 t (by
      show Steps p.tables e below (T207.setTop (mkF m 457 #[.val (.int px), .val (.int qx), .val (.int ox), .val (.int dx), .val (.ref b2), .val (.int v204)] [(.int (F1 v204))])) _
      refine XS.iload X207.here hx rfl (hb hby at_457) rfl ?_
      exact k)
    obtain ⟨_, _, ⟨T210, L210, k210, n210⟩, -, X210, ⟨Lc210, hQ210, l210, y210, z210⟩, st210⟩ := Jvm.LawKit.callS X207 hx (y := (⟨"com/example/taggen/taggen/XmlCharsIsNameStartCharPinLaw", "reference", "(I)Z"⟩ : MethodName)) hown (mvT hZ (hw _ (List.mem_of_getElem? (i := 23) rfl))) (mvT hZ (hw _ (List.mem_of_getElem? (i := 24) rfl))) (mvT hZ (hw _ (List.mem_of_getElem? (i := 25) rfl))) (mvT hZ (hw _ (List.mem_of_getElem? (i := 26) rfl))) (by decide) (backOf (W := 1) (rm2 l Z a0 hw [] v204  T207.heap n0 _ R207 ) hZ (hw _ (List.mem_of_getElem? (i := 26) rfl)) (hw _ (List.mem_of_getElem? (i := 25) rfl)) (by decide) (by decide)) (g := (mkF m 459 #[.val (.int px), .val (.int qx), .val (.int ox), .val (.int dx), .val (.ref b2), .val (.int v204)] [(.int v204), (.int (F1 v204))])) rfl (by rw [hml]; rfl) (argsL := [(.int v204)]) (rest := [(.int (F1 v204))]) (lenOf pd__28I_29Z rfl) rfl (by show 2 * 0 + _ ≤ _; exact Nat.le_of_eq rfl) (hb hby at_459) (fun _ _ => ⟨rfl, rfl, (by decide : 1 + 0 ≤ _), (by decide : 65 + 0 ≤ _)⟩)
    dsimp only [Pt.U, Pt.locs, Pt.cells, Pt.slots] at X210 l210 y210 z210 st210 hQ210
    subst l210 y210 z210
    obtain ⟨rfl, N210q, R210⟩ := hQ210
    have N210 := Fr.app N207 N210q
    replace R210 : Rep Z n0 T210.heap ((b2, Ar .int [(.int (0 : Int32)), (.int (57 : Int32)), (.int (58 : Int32)), (.int (59 : Int32)), (.int (64 : Int32)), (.int (65 : Int32)), (.int (90 : Int32)), (.int (91 : Int32)), (.int (94 : Int32)), (.int (95 : Int32)), (.int (96 : Int32)), (.int (97 : Int32)), (.int (122 : Int32)), (.int (123 : Int32)), (.int (127 : Int32)), (.int (128 : Int32)), (.int (191 : Int32)), (.int (192 : Int32)), (.int (214 : Int32)), (.int (215 : Int32)), (.int (216 : Int32)), (.int (246 : Int32)), (.int (247 : Int32)), (.int (248 : Int32)), (.int (767 : Int32)), (.int (768 : Int32)), (.int (879 : Int32)), (.int (880 : Int32)), (.int (893 : Int32)), (.int (894 : Int32)), (.int (895 : Int32)), (.int (8191 : Int32)), (.int (8192 : Int32)), (.int (8203 : Int32)), (.int (8204 : Int32)), (.int (8205 : Int32)), (.int (8206 : Int32)), (.int (8303 : Int32)), (.int (8304 : Int32)), (.int (8591 : Int32)), (.int (8592 : Int32)), (.int (11263 : Int32)), (.int (11264 : Int32)), (.int (12271 : Int32)), (.int (12272 : Int32)), (.int (12288 : Int32)), (.int (12289 : Int32)), (.int (55295 : Int32)), (.int (55296 : Int32)), (.int (63743 : Int32)), (.int (63744 : Int32)), (.int (64975 : Int32)), (.int (64976 : Int32)), (.int (65007 : Int32)), (.int (65008 : Int32)), (.int (65533 : Int32)), (.int (65534 : Int32)), (.int (65535 : Int32)), (.int (65536 : Int32)), (.int (983039 : Int32)), (.int (983040 : Int32)), (.int (1114111 : Int32)), (.int (1114112 : Int32)), (.int (-2147483648 : Int32)), (.int (2147483647 : Int32))]) :: []) := R210
    have pre211 : ∀ t, Steps p.tables e below (T210.setTop (mkF m 462 #[.val (.int px), .val (.int qx), .val (.int ox), .val (.int dx), .val (.ref b2), .val (.int v204)] [(.int (F2 v204)), (.int (F1 v204))])) t → Steps p.tables e below (s₁.setTop (entryFrame m #[(.int px), (.int qx), (.int ox), (.int dx)] maxLocals)) t := fun t k => pre209 t (st210 t k)
    have tl213 : ∀ t, Steps p.tables e below (T210.setTop (mkF m 470 #[.val (.int px), .val (.int qx), .val (.int ox), .val (.int dx), .val (.ref b2), .val (.int v204)] [(.int (bz ((F1 v204) = (F2 v204))))])) t → Steps p.tables e below (T210.setTop (mkF m 462 #[.val (.int px), .val (.int qx), .val (.int ox), .val (.int dx), .val (.ref b2), .val (.int v204)] [(.int (F2 v204)), (.int (F1 v204))])) t := fun t k => by
      by_cases hb212 : (F1 v204) = (F2 v204)
      · refine XS.icmpNo X210.here hx rfl (hb hby at_462) rfl (teq hb212).2 ?_
        rw [bz_one (P := ((F1 v204) = (F2 v204))) (iff_true_intro hb212)] at k
        show Steps p.tables e below (T210.setTop (mkF m 465 #[.val (.int px), .val (.int qx), .val (.int ox), .val (.int dx), .val (.ref b2), .val (.int v204)] [])) _
        refine XS.iconst X210.here hx rfl (hb hby at_465) ?_
        refine XS.goto X210.here hx rfl (pc0 := 466) (pc' := 470) rfl (hb hby at_466) (by decide) (by decide) ?_
        exact k
      · refine XS.icmpYes X210.here hx rfl (pc0 := 462) (pc' := 469) rfl (hb hby at_462) rfl (feq hb212).2 (by decide) (by decide) ?_
        rw [bz_zero (P := ((F1 v204) = (F2 v204))) (iff_false_intro hb212)] at k
        show Steps p.tables e below (T210.setTop (mkF m 469 #[.val (.int px), .val (.int qx), .val (.int ox), .val (.int dx), .val (.ref b2), .val (.int v204)] [])) _
        refine XS.iconst X210.here hx rfl (hb hby at_469) ?_
        exact k
    have pre214 : ∀ t, Steps p.tables e below (T210.setTop (mkF m 470 #[.val (.int px), .val (.int qx), .val (.int ox), .val (.int dx), .val (.ref b2), .val (.int v204)] [(.int (bz ((F1 v204) = (F2 v204))))])) t → Steps p.tables e below (s₁.setTop (entryFrame m #[(.int px), (.int qx), (.int ox), (.int dx)] maxLocals)) t := fun t k => pre211 t (by
      exact tl213 t k)
    obtain ⟨fs, hr, hrun, hended, hW, hsame⟩ := X210.leave (v := some (.int (nar .boolean (bz ((F1 v204) = (F2 v204)))))) (fun h => by rw [Bd.returns] at h; cases h)
    refine ⟨_, _, pre214 _ ?_, hrun, hended, _, _, rfl, ?_, ⟨_, rfl⟩, hW, hsame.mono (by decide) (by decide)⟩
    · show Steps p.tables e below (T210.setTop (mkF m 470 #[.val (.int px), .val (.int qx), .val (.int ox), .val (.int dx), .val (.ref b2), .val (.int v204)] [(.int (bz ((F1 v204) = (F2 v204))))])) _
      exact retN X210 hx (t := .boolean) Bd.returns (by simp) (hb hby at_470) hr
    · show Q0 Z px qx ox dx n0 [] _ T210.heap _
      have R215 : Rep Z n0 T210.heap ([]) := (R210.front 0 rfl rfl : Rep Z n0 T210.heap ((b2, Ar .int [(.int (0 : Int32)), (.int (57 : Int32)), (.int (58 : Int32)), (.int (59 : Int32)), (.int (64 : Int32)), (.int (65 : Int32)), (.int (90 : Int32)), (.int (91 : Int32)), (.int (94 : Int32)), (.int (95 : Int32)), (.int (96 : Int32)), (.int (97 : Int32)), (.int (122 : Int32)), (.int (123 : Int32)), (.int (127 : Int32)), (.int (128 : Int32)), (.int (191 : Int32)), (.int (192 : Int32)), (.int (214 : Int32)), (.int (215 : Int32)), (.int (216 : Int32)), (.int (246 : Int32)), (.int (247 : Int32)), (.int (248 : Int32)), (.int (767 : Int32)), (.int (768 : Int32)), (.int (879 : Int32)), (.int (880 : Int32)), (.int (893 : Int32)), (.int (894 : Int32)), (.int (895 : Int32)), (.int (8191 : Int32)), (.int (8192 : Int32)), (.int (8203 : Int32)), (.int (8204 : Int32)), (.int (8205 : Int32)), (.int (8206 : Int32)), (.int (8303 : Int32)), (.int (8304 : Int32)), (.int (8591 : Int32)), (.int (8592 : Int32)), (.int (11263 : Int32)), (.int (11264 : Int32)), (.int (12271 : Int32)), (.int (12272 : Int32)), (.int (12288 : Int32)), (.int (12289 : Int32)), (.int (55295 : Int32)), (.int (55296 : Int32)), (.int (63743 : Int32)), (.int (63744 : Int32)), (.int (64975 : Int32)), (.int (64976 : Int32)), (.int (65007 : Int32)), (.int (65008 : Int32)), (.int (65533 : Int32)), (.int (65534 : Int32)), (.int (65535 : Int32)), (.int (65536 : Int32)), (.int (983039 : Int32)), (.int (983040 : Int32)), (.int (1114111 : Int32)), (.int (1114112 : Int32)), (.int (-2147483648 : Int32)), (.int (2147483647 : Int32))]) :: [])).tail
      exact ⟨(by exact ow_fin (own_eq _)), N210, R215⟩
  · have pre216 : ∀ t, Steps p.tables e below (T197.setTop (mkF m 427 #[.val (.int px), .val (.int qx), .val (.int ox), .val (.int dx), .val (.ref b2), .unset] [])) t → Steps p.tables e below (s₁.setTop (entryFrame m #[(.int px), (.int qx), (.int ox), (.int dx)] maxLocals)) t := fun t k => pre200 t (by show Steps p.tables e below (T197.setTop (mkF m 424 #[.val (.int px), .val (.int qx), .val (.int ox), .val (.int dx), .val (.ref b2), .unset] [(.int (dx &&& (1 : Int32)))])) _; refine XS.ifNo X197.here hx rfl (hb hby at_424) rfl ((if0 _ _).trans (feq hb202).1) ?_; exact k)
    have pre217 : ∀ t, Steps p.tables e below (T197.setTop (mkF m 454 #[.val (.int px), .val (.int qx), .val (.int ox), .val (.int dx), .val (.ref b2), .val (.int px)] [(.int px)])) t → Steps p.tables e below (s₁.setTop (entryFrame m #[(.int px), (.int qx), (.int ox), (.int dx)] maxLocals)) t := fun t k => pre216 t (by
      show Steps p.tables e below (T197.setTop (mkF m 427 #[.val (.int px), .val (.int qx), .val (.int ox), .val (.int dx), .val (.ref b2), .unset] [])) _
      refine XS.iloadN X197.here hx rfl (hb hby at_427) rfl ?_
      refine XS.istore X197.here hx rfl (hb hby at_428) rfl (l' := #[.val (.int px), .val (.int qx), .val (.int ox), .val (.int dx), .val (.ref b2), .val (.int px)]) rfl ?_
      refine XS.goto X197.here hx rfl (pc0 := 430) (pc' := 452) rfl (hb hby at_430) (by decide) (by decide) ?_
      refine XS.iload X197.here hx rfl (hb hby at_452) rfl ?_
      exact k)
    obtain ⟨_, _, ⟨T218, L218, k218, n218⟩, -, X218, ⟨Lc218, hQ218, l218, y218, z218⟩, st218⟩ := Jvm.LawKit.callS X197 hx (y := (⟨"com/example/taggen/taggen/XmlChars", "isNameStartChar", "(I)Z"⟩ : MethodName)) hown (mvT hZ (hw _ (List.mem_of_getElem? (i := 19) rfl))) (mvT hZ (hw _ (List.mem_of_getElem? (i := 20) rfl))) (mvT hZ (hw _ (List.mem_of_getElem? (i := 21) rfl))) (mvT hZ (hw _ (List.mem_of_getElem? (i := 22) rfl))) (by decide) (backOf (W := 0) (rm1 l Z a0 hw [] px  h197 n0 _ R197 ) hZ (hw _ (List.mem_of_getElem? (i := 22) rfl)) (hw _ (List.mem_of_getElem? (i := 21) rfl)) (by decide) (by decide)) (g := (mkF m 454 #[.val (.int px), .val (.int qx), .val (.int ox), .val (.int dx), .val (.ref b2), .val (.int px)] [(.int px)])) rfl (by rw [hml]; rfl) (argsL := [(.int px)]) (rest := []) (lenOf pd__28I_29Z rfl) rfl (by show 2 * 0 + _ ≤ _; exact Nat.le_of_eq rfl) (hb hby at_454) (fun _ _ => ⟨rfl, e197, (by decide : 1 + 0 ≤ _), (by decide : 65 + 0 ≤ _)⟩)
    dsimp only [Pt.U, Pt.locs, Pt.cells, Pt.slots] at X218 l218 y218 z218 st218 hQ218
    subst l218 y218 z218
    obtain ⟨rfl, N218q, R218⟩ := hQ218
    have N218 := Fr.app N197 N218q
    replace R218 : Rep Z n0 T218.heap ((b2, Ar .int [(.int (0 : Int32)), (.int (57 : Int32)), (.int (58 : Int32)), (.int (59 : Int32)), (.int (64 : Int32)), (.int (65 : Int32)), (.int (90 : Int32)), (.int (91 : Int32)), (.int (94 : Int32)), (.int (95 : Int32)), (.int (96 : Int32)), (.int (97 : Int32)), (.int (122 : Int32)), (.int (123 : Int32)), (.int (127 : Int32)), (.int (128 : Int32)), (.int (191 : Int32)), (.int (192 : Int32)), (.int (214 : Int32)), (.int (215 : Int32)), (.int (216 : Int32)), (.int (246 : Int32)), (.int (247 : Int32)), (.int (248 : Int32)), (.int (767 : Int32)), (.int (768 : Int32)), (.int (879 : Int32)), (.int (880 : Int32)), (.int (893 : Int32)), (.int (894 : Int32)), (.int (895 : Int32)), (.int (8191 : Int32)), (.int (8192 : Int32)), (.int (8203 : Int32)), (.int (8204 : Int32)), (.int (8205 : Int32)), (.int (8206 : Int32)), (.int (8303 : Int32)), (.int (8304 : Int32)), (.int (8591 : Int32)), (.int (8592 : Int32)), (.int (11263 : Int32)), (.int (11264 : Int32)), (.int (12271 : Int32)), (.int (12272 : Int32)), (.int (12288 : Int32)), (.int (12289 : Int32)), (.int (55295 : Int32)), (.int (55296 : Int32)), (.int (63743 : Int32)), (.int (63744 : Int32)), (.int (64975 : Int32)), (.int (64976 : Int32)), (.int (65007 : Int32)), (.int (65008 : Int32)), (.int (65533 : Int32)), (.int (65534 : Int32)), (.int (65535 : Int32)), (.int (65536 : Int32)), (.int (983039 : Int32)), (.int (983040 : Int32)), (.int (1114111 : Int32)), (.int (1114112 : Int32)), (.int (-2147483648 : Int32)), (.int (2147483647 : Int32))]) :: []) := R218
    have pre219 : ∀ t, Steps p.tables e below (T218.setTop (mkF m 457 #[.val (.int px), .val (.int qx), .val (.int ox), .val (.int dx), .val (.ref b2), .val (.int px)] [(.int (F1 px))])) t → Steps p.tables e below (s₁.setTop (entryFrame m #[(.int px), (.int qx), (.int ox), (.int dx)] maxLocals)) t := fun t k => pre217 t (st218 t k)
    have pre220 : ∀ t, Steps p.tables e below (T218.setTop (mkF m 459 #[.val (.int px), .val (.int qx), .val (.int ox), .val (.int dx), .val (.ref b2), .val (.int px)] [(.int px), (.int (F1 px))])) t → Steps p.tables e below (s₁.setTop (entryFrame m #[(.int px), (.int qx), (.int ox), (.int dx)] maxLocals)) t := fun t k => pre219 t (by
      show Steps p.tables e below (T218.setTop (mkF m 457 #[.val (.int px), .val (.int qx), .val (.int ox), .val (.int dx), .val (.ref b2), .val (.int px)] [(.int (F1 px))])) _
      refine XS.iload X218.here hx rfl (hb hby at_457) rfl ?_
      exact k)
    obtain ⟨_, _, ⟨T221, L221, k221, n221⟩, -, X221, ⟨Lc221, hQ221, l221, y221, z221⟩, st221⟩ := Jvm.LawKit.callS X218 hx (y := (⟨"com/example/taggen/taggen/XmlCharsIsNameStartCharPinLaw", "reference", "(I)Z"⟩ : MethodName)) hown (mvT hZ (hw _ (List.mem_of_getElem? (i := 23) rfl))) (mvT hZ (hw _ (List.mem_of_getElem? (i := 24) rfl))) (mvT hZ (hw _ (List.mem_of_getElem? (i := 25) rfl))) (mvT hZ (hw _ (List.mem_of_getElem? (i := 26) rfl))) (by decide) (backOf (W := 1) (rm2 l Z a0 hw [] px  T218.heap n0 _ R218 ) hZ (hw _ (List.mem_of_getElem? (i := 26) rfl)) (hw _ (List.mem_of_getElem? (i := 25) rfl)) (by decide) (by decide)) (g := (mkF m 459 #[.val (.int px), .val (.int qx), .val (.int ox), .val (.int dx), .val (.ref b2), .val (.int px)] [(.int px), (.int (F1 px))])) rfl (by rw [hml]; rfl) (argsL := [(.int px)]) (rest := [(.int (F1 px))]) (lenOf pd__28I_29Z rfl) rfl (by show 2 * 0 + _ ≤ _; exact Nat.le_of_eq rfl) (hb hby at_459) (fun _ _ => ⟨rfl, rfl, (by decide : 1 + 0 ≤ _), (by decide : 65 + 0 ≤ _)⟩)
    dsimp only [Pt.U, Pt.locs, Pt.cells, Pt.slots] at X221 l221 y221 z221 st221 hQ221
    subst l221 y221 z221
    obtain ⟨rfl, N221q, R221⟩ := hQ221
    have N221 := Fr.app N218 N221q
    replace R221 : Rep Z n0 T221.heap ((b2, Ar .int [(.int (0 : Int32)), (.int (57 : Int32)), (.int (58 : Int32)), (.int (59 : Int32)), (.int (64 : Int32)), (.int (65 : Int32)), (.int (90 : Int32)), (.int (91 : Int32)), (.int (94 : Int32)), (.int (95 : Int32)), (.int (96 : Int32)), (.int (97 : Int32)), (.int (122 : Int32)), (.int (123 : Int32)), (.int (127 : Int32)), (.int (128 : Int32)), (.int (191 : Int32)), (.int (192 : Int32)), (.int (214 : Int32)), (.int (215 : Int32)), (.int (216 : Int32)), (.int (246 : Int32)), (.int (247 : Int32)), (.int (248 : Int32)), (.int (767 : Int32)), (.int (768 : Int32)), (.int (879 : Int32)), (.int (880 : Int32)), (.int (893 : Int32)), (.int (894 : Int32)), (.int (895 : Int32)), (.int (8191 : Int32)), (.int (8192 : Int32)), (.int (8203 : Int32)), (.int (8204 : Int32)), (.int (8205 : Int32)), (.int (8206 : Int32)), (.int (8303 : Int32)), (.int (8304 : Int32)), (.int (8591 : Int32)), (.int (8592 : Int32)), (.int (11263 : Int32)), (.int (11264 : Int32)), (.int (12271 : Int32)), (.int (12272 : Int32)), (.int (12288 : Int32)), (.int (12289 : Int32)), (.int (55295 : Int32)), (.int (55296 : Int32)), (.int (63743 : Int32)), (.int (63744 : Int32)), (.int (64975 : Int32)), (.int (64976 : Int32)), (.int (65007 : Int32)), (.int (65008 : Int32)), (.int (65533 : Int32)), (.int (65534 : Int32)), (.int (65535 : Int32)), (.int (65536 : Int32)), (.int (983039 : Int32)), (.int (983040 : Int32)), (.int (1114111 : Int32)), (.int (1114112 : Int32)), (.int (-2147483648 : Int32)), (.int (2147483647 : Int32))]) :: []) := R221
    have pre222 : ∀ t, Steps p.tables e below (T221.setTop (mkF m 462 #[.val (.int px), .val (.int qx), .val (.int ox), .val (.int dx), .val (.ref b2), .val (.int px)] [(.int (F2 px)), (.int (F1 px))])) t → Steps p.tables e below (s₁.setTop (entryFrame m #[(.int px), (.int qx), (.int ox), (.int dx)] maxLocals)) t := fun t k => pre220 t (st221 t k)
    have tl224 : ∀ t, Steps p.tables e below (T221.setTop (mkF m 470 #[.val (.int px), .val (.int qx), .val (.int ox), .val (.int dx), .val (.ref b2), .val (.int px)] [(.int (bz ((F1 px) = (F2 px))))])) t → Steps p.tables e below (T221.setTop (mkF m 462 #[.val (.int px), .val (.int qx), .val (.int ox), .val (.int dx), .val (.ref b2), .val (.int px)] [(.int (F2 px)), (.int (F1 px))])) t := fun t k => by
      by_cases hb223 : (F1 px) = (F2 px)
      · refine XS.icmpNo X221.here hx rfl (hb hby at_462) rfl (teq hb223).2 ?_
        rw [bz_one (P := ((F1 px) = (F2 px))) (iff_true_intro hb223)] at k
        show Steps p.tables e below (T221.setTop (mkF m 465 #[.val (.int px), .val (.int qx), .val (.int ox), .val (.int dx), .val (.ref b2), .val (.int px)] [])) _
        refine XS.iconst X221.here hx rfl (hb hby at_465) ?_
        refine XS.goto X221.here hx rfl (pc0 := 466) (pc' := 470) rfl (hb hby at_466) (by decide) (by decide) ?_
        exact k
      · refine XS.icmpYes X221.here hx rfl (pc0 := 462) (pc' := 469) rfl (hb hby at_462) rfl (feq hb223).2 (by decide) (by decide) ?_
        rw [bz_zero (P := ((F1 px) = (F2 px))) (iff_false_intro hb223)] at k
        show Steps p.tables e below (T221.setTop (mkF m 469 #[.val (.int px), .val (.int qx), .val (.int ox), .val (.int dx), .val (.ref b2), .val (.int px)] [])) _
        refine XS.iconst X221.here hx rfl (hb hby at_469) ?_
        exact k
    have pre225 : ∀ t, Steps p.tables e below (T221.setTop (mkF m 470 #[.val (.int px), .val (.int qx), .val (.int ox), .val (.int dx), .val (.ref b2), .val (.int px)] [(.int (bz ((F1 px) = (F2 px))))])) t → Steps p.tables e below (s₁.setTop (entryFrame m #[(.int px), (.int qx), (.int ox), (.int dx)] maxLocals)) t := fun t k => pre222 t (by
      exact tl224 t k)
    obtain ⟨fs, hr, hrun, hended, hW, hsame⟩ := X221.leave (v := some (.int (nar .boolean (bz ((F1 px) = (F2 px)))))) (fun h => by rw [Bd.returns] at h; cases h)
    refine ⟨_, _, pre225 _ ?_, hrun, hended, _, _, rfl, ?_, ⟨_, rfl⟩, hW, hsame.mono (by decide) (by decide)⟩
    · show Steps p.tables e below (T221.setTop (mkF m 470 #[.val (.int px), .val (.int qx), .val (.int ox), .val (.int dx), .val (.ref b2), .val (.int px)] [(.int (bz ((F1 px) = (F2 px))))])) _
      exact retN X221 hx (t := .boolean) Bd.returns (by simp) (hb hby at_470) hr
    · show Q0 Z px qx ox dx n0 [] _ T221.heap _
      have R226 : Rep Z n0 T221.heap ([]) := (R221.front 0 rfl rfl : Rep Z n0 T221.heap ((b2, Ar .int [(.int (0 : Int32)), (.int (57 : Int32)), (.int (58 : Int32)), (.int (59 : Int32)), (.int (64 : Int32)), (.int (65 : Int32)), (.int (90 : Int32)), (.int (91 : Int32)), (.int (94 : Int32)), (.int (95 : Int32)), (.int (96 : Int32)), (.int (97 : Int32)), (.int (122 : Int32)), (.int (123 : Int32)), (.int (127 : Int32)), (.int (128 : Int32)), (.int (191 : Int32)), (.int (192 : Int32)), (.int (214 : Int32)), (.int (215 : Int32)), (.int (216 : Int32)), (.int (246 : Int32)), (.int (247 : Int32)), (.int (248 : Int32)), (.int (767 : Int32)), (.int (768 : Int32)), (.int (879 : Int32)), (.int (880 : Int32)), (.int (893 : Int32)), (.int (894 : Int32)), (.int (895 : Int32)), (.int (8191 : Int32)), (.int (8192 : Int32)), (.int (8203 : Int32)), (.int (8204 : Int32)), (.int (8205 : Int32)), (.int (8206 : Int32)), (.int (8303 : Int32)), (.int (8304 : Int32)), (.int (8591 : Int32)), (.int (8592 : Int32)), (.int (11263 : Int32)), (.int (11264 : Int32)), (.int (12271 : Int32)), (.int (12272 : Int32)), (.int (12288 : Int32)), (.int (12289 : Int32)), (.int (55295 : Int32)), (.int (55296 : Int32)), (.int (63743 : Int32)), (.int (63744 : Int32)), (.int (64975 : Int32)), (.int (64976 : Int32)), (.int (65007 : Int32)), (.int (65008 : Int32)), (.int (65533 : Int32)), (.int (65534 : Int32)), (.int (65535 : Int32)), (.int (65536 : Int32)), (.int (983039 : Int32)), (.int (983040 : Int32)), (.int (1114111 : Int32)), (.int (1114112 : Int32)), (.int (-2147483648 : Int32)), (.int (2147483647 : Int32))]) :: [])).tail
      exact ⟨(by exact ow_fin (own_eq _)), N221, R226⟩
set_option maxRecDepth 65536 in
set_option maxHeartbeats 40000000 in
theorem comes_1 {Post : Tables → Env → Array Value → State → Outcome → State → Prop} (hpost : ∀ tb e args s v u, (limb_1_1.after args s (.returned v) u = true ∧ limb_1_2.after args s (.returned v) u = true ∧ True) → FrameEnd s (.returned v) u (Jvm.fieldLocs frame_1_writes args s ++ Jvm.arrayLocs frame_1_arrays args s ++ Jvm.staticLocs frame_1_statics s) 16 256 → Post tb e args s (.returned v) u) :
    ArmFor flags0 classFile x code maxLocals ret World_1 tables_1 room_1 Calls_1 rest_1 Pre_1 Post := by
  intro l hfl _ _ p e ha hc hk s m args below hf hA hF happ hP
  obtain ⟨hcalls, hrest, hpre⟩ := hP
  obtain ⟨-, -, -, hnamed, -, -, -, hat⟩ := (Spec.applies_iff hf).mp happ
  obtain ⟨hg, hn⟩ := and_e (Cond.before_iff.mp (show (Jvm.Cond.and given_1 narrow_1).before args s = true from hpre))
  obtain ⟨hct, hg⟩ := and_e hg
  obtain ⟨hg0, hg⟩ := and_e hg
  obtain ⟨hg1, hg⟩ := and_e hg
  obtain ⟨hg2, hg⟩ := and_e hg
  have hg3 := hg
  obtain ⟨w0, w1, w2, w3, rfl⟩ : ∃ w0 w1 w2 w3 : Value, args = #[w0, w1, w2, w3] := by
    have hs : args.size = 4 := by simpa [Cond.value, given_1] using hct
    obtain ⟨L⟩ := args
    match L, hs with
    | [w0, w1, w2, w3], _ => exact ⟨w0, w1, w2, w3, rfl⟩
  have hw := fun d (hd : d ∈ tables_1) => atoms_spec (ws := Jvm.Cond.code x code maxLocals ret :: tables_1) hat d (List.mem_cons_of_mem _ hd)
  obtain ⟨i0, ei0⟩ := is_v hg0
  obtain rfl : w0 = (.int i0) := Option.some.inj ei0
  obtain ⟨i1, ei1⟩ := is_v hg1
  obtain rfl : w1 = (.int i1) := Option.some.inj ei1
  obtain ⟨i2, ei2⟩ := is_v hg2
  obtain rfl : w2 = (.int i2) := Option.some.inj ei2
  obtain ⟨i3, ei3⟩ := is_v hg3
  obtain rfl : w3 = (.int i3) := Option.some.inj ei3
  obtain ⟨n, o, h1, h2, h3, _, L, rfl, ⟨rfl, N, -⟩, hq⟩ := rm0 l s _ hw tables_1 i0 i1 i2 i3 s.heap s.heap.size (Rep.nil _) p e ha hc hk s m _ below hf ((Spec.applies_iff_loose hf).mp happ).1 ⟨rfl, State.Warmed39.refl s, rfl⟩ trivial
  refine ⟨n, _, h1, h2, h3, hpost _ _ _ _ _ _ ⟨Cond.after_iff.mpr rfl, Cond.after_iff.mpr (eq_i res_at (Term.int_eval (1)) rfl), trivial⟩ ⟨hq.1, hq.2.1, (hq.2.2.sift fun y hy => Or.inr (N y hy)).mono (by decide) (by decide)⟩⟩
theorem main_1_1 : Claimed_1_1 := comes_1 fun _ _ _ _ _ _ h hF => ⟨h.1, hF⟩
theorem main_1_2 : Claimed_1_2 := comes_1 fun _ _ _ _ _ _ h hF => ⟨h.2.1, hF⟩
end Jvm.Pilot.@@N@@
namespace Jvm.Pilot.@@N@@
open Jvm Jvm.ClassFile Sem Op Lib Jvm.Free Jvm.Stand Jvm.Pilot.@@N@@.Jvm.D
/-! MADE BY PROGRAM (witnessworld.py) out of the Statement's table words and the real class files: 9 classes; the members and pool entries that the words name. The judged class is class 1, her method 2. -/
namespace start1
open Jvm.ClassFile
def u (s : String) : CpInfo := .utf8 (stringToUtf16 s)
/-- a pool by its gaps: so many unusable entries, then the entry; so many at the end -/
def gap : Nat → List CpInfo → List CpInfo
  | 0, r => r
  | n + 1, r => .unusable :: gap n r
def poolList (es : List (Nat × CpInfo)) (last : Nat) : List CpInfo := es.foldr (fun e r => gap e.1 (e.2 :: r)) (gap last [])
def pool (es : List (Nat × CpInfo)) (last : Nat) : Array CpInfo := ⟨poolList es last⟩
def fileOf (pool : Array CpInfo) (this : Nat) (attrs : Array Attribute := #[]) (ms : Array MethodInfo := #[]) (fl : Nat := 33) (sup : Nat := 0) (ifs : Array Nat := #[]) (fds : Array FieldInfo := #[]) : ClassFile where
  minorVersion := 0
  majorVersion := 65
  constantPool := pool
  accessFlags := fl
  thisClass := this
  superClass := sup
  interfaces := ifs
  fields := fds
  methods := ms
  attributes := attrs
def plain (name : String) (sup : Option ClassId) : Class where
  name := name
  kind := .ordinary
  loader := none
  accessFlags := 33
  super := sup
  interfaces := #[]
  cf := none
  fields := #[]
  methods := #[]
  instanceTypes := #[]
  staticTypes := #[]
  resolved := #[]
  callSites := []
  init := .initialized
  statics := none
  mirror := none

def pool0 : Array CpInfo := pool [(5, u "<init>"), (0, u "()V"), (1, .class_ 10), (1, u "java/lang/Object")] 113

def k0m0 : Method := { name := "<init>", desc := "()V", sig := { parameters := [], returnType := none }, accessFlags := 1, code := none }
/-- java/lang/Object -/
def k0 : Class := { plain "java/lang/Object" none with
  accessFlags := 33
  interfaces := #[]
  cf := some (fileOf pool0 8 #[] #[{ accessFlags := 1, nameIndex := 5, descriptorIndex := 6, attributes := #[] }] 33 0 #[] #[])
  fields := #[]
  methods := #[k0m0]
  instanceTypes := #[]
  staticTypes := #[]
  resolved := Array.replicate 124 none
  statics := none }

def pool1 : Array CpInfo := pool [(2, .class_ 4), (1, u "java/lang/Object"), (0, u "<init>"), (0, u "()V"), (0, .integer 983039), (0, .integer 55296), (0, .integer 63743), (0, .integer 64976), (0, .integer 65007), (0, .integer 65534), (0, .integer 65535), (0, .integer 55295), (0, .integer 63744), (0, .integer 64975), (0, .integer 65008), (0, .integer 65533), (0, .integer 65536), (0, .integer 983040), (0, .integer 1114111), (0, .integer 1114112), (2, .integer 2147483648), (0, .integer 2147483647), (0, .methodref 28 29), (0, .class_ 30), (0, .nameAndType 31 32), (0, u "com/example/taggen/taggen/XmlChars"), (0, u "isNameStartChar"), (0, u "(I)Z"), (0, .methodref 34 35), (0, .class_ 36), (0, .nameAndType 37 32), (0, u "com/example/taggen/taggen/XmlCharsIsNameStartCharPinLaw"), (0, u "reference"), (3, u "law"), (0, u "(IIII)Z")] 4

def k1m0 : Method := { name := "<init>", desc := "()V", sig := { parameters := [], returnType := none }, accessFlags := 1, code := none }
def k1c1 : Code := { maxStack := 2, maxLocals := 2, code := method_2_code, exceptionTable := #[], attributes := #[] }
def k1m1 : Method := { name := "reference", desc := "(I)Z", sig := { parameters := [.int], returnType := some .boolean }, accessFlags := 10, code := some k1c1 }
def k1c2 : Code := { maxStack := 4, maxLocals := 6, code := code, exceptionTable := #[], attributes := #[] }
def k1m2 : Method := { name := "law", desc := "(IIII)Z", sig := { parameters := [.int, .int, .int, .int], returnType := some .boolean }, accessFlags := 9, code := some k1c2 }
/-- com/example/taggen/taggen/XmlCharsIsNameStartCharPinLaw -/
def k1 : Class := { plain "com/example/taggen/taggen/XmlCharsIsNameStartCharPinLaw" (some 0) with
  accessFlags := 49
  interfaces := #[]
  cf := some (fileOf pool1 34 #[] #[{ accessFlags := 1, nameIndex := 5, descriptorIndex := 6, attributes := #[] }, { accessFlags := 10, nameIndex := 37, descriptorIndex := 32, attributes := #[] }, { accessFlags := 9, nameIndex := 41, descriptorIndex := 42, attributes := #[] }] 49 2 #[] #[])
  fields := #[]
  methods := #[k1m0, k1m1, k1m2]
  instanceTypes := #[]
  staticTypes := #[]
  resolved := Array.replicate 47 none
  statics := none }

def pool2 : Array CpInfo := pool [(2, .class_ 4), (1, u "java/lang/Object"), (0, u "<init>"), (0, u "()V"), (0, .integer 55295), (1, .integer 65533), (0, .integer 65536), (1, .integer 63744), (0, .integer 64975), (0, .integer 65008), (0, .integer 983039), (1, .class_ 19), (1, u "com/example/taggen/taggen/XmlChars"), (0, u "isNameStartChar"), (0, u "(I)Z"), (2, u "FOURTH_EDITION_NAME_START"), (0, u "[J"), (6, u "FOURTH_EDITION_NAME"), (58, u "ASCII_NC_NAME_START"), (0, u "[Z"), (2, u "ASCII_NC_NAME"), (59, u "BASE_CHAR"), (0, u "[I"), (3, u "IDEOGRAPHIC"), (2, u "COMBINING_CHAR"), (2, u "DIGIT"), (2, u "EXTENDER")] 46

def k2m0 : Method := { name := "<init>", desc := "()V", sig := { parameters := [], returnType := none }, accessFlags := 2, code := none }
def k2c1 : Code := { maxStack := 2, maxLocals := 1, code := prog_32_method_3_code, exceptionTable := #[], attributes := #[] }
def k2m1 : Method := { name := "isNameStartChar", desc := "(I)Z", sig := { parameters := [.int], returnType := some .boolean }, accessFlags := 8, code := some k2c1 }
/-- com/example/taggen/taggen/XmlChars -/
def k2 : Class := { plain "com/example/taggen/taggen/XmlChars" (some 0) with
  accessFlags := 48
  interfaces := #[]
  cf := some (fileOf pool2 17 #[] #[{ accessFlags := 2, nameIndex := 5, descriptorIndex := 6, attributes := #[] }, { accessFlags := 8, nameIndex := 20, descriptorIndex := 21, attributes := #[] }] 48 2 #[] #[{ accessFlags := 26, nameIndex := 155, descriptorIndex := 156, attributes := #[] }, { accessFlags := 26, nameIndex := 160, descriptorIndex := 156, attributes := #[] }, { accessFlags := 26, nameIndex := 163, descriptorIndex := 156, attributes := #[] }, { accessFlags := 26, nameIndex := 166, descriptorIndex := 156, attributes := #[] }, { accessFlags := 26, nameIndex := 169, descriptorIndex := 156, attributes := #[] }, { accessFlags := 26, nameIndex := 24, descriptorIndex := 25, attributes := #[] }, { accessFlags := 26, nameIndex := 32, descriptorIndex := 25, attributes := #[] }, { accessFlags := 26, nameIndex := 91, descriptorIndex := 92, attributes := #[] }, { accessFlags := 26, nameIndex := 95, descriptorIndex := 92, attributes := #[] }])
  fields := #[{ name := "BASE_CHAR", type := (.array .int), accessFlags := 26, slot := 0, constantValue := 0 }, { name := "IDEOGRAPHIC", type := (.array .int), accessFlags := 26, slot := 1, constantValue := 0 }, { name := "COMBINING_CHAR", type := (.array .int), accessFlags := 26, slot := 2, constantValue := 0 }, { name := "DIGIT", type := (.array .int), accessFlags := 26, slot := 3, constantValue := 0 }, { name := "EXTENDER", type := (.array .int), accessFlags := 26, slot := 4, constantValue := 0 }, { name := "FOURTH_EDITION_NAME_START", type := (.array .long), accessFlags := 26, slot := 5, constantValue := 0 }, { name := "FOURTH_EDITION_NAME", type := (.array .long), accessFlags := 26, slot := 6, constantValue := 0 }, { name := "ASCII_NC_NAME_START", type := (.array .boolean), accessFlags := 26, slot := 7, constantValue := 0 }, { name := "ASCII_NC_NAME", type := (.array .boolean), accessFlags := 26, slot := 8, constantValue := 0 }]
  methods := #[k2m0, k2m1]
  instanceTypes := #[]
  staticTypes := #[(.array .int), (.array .int), (.array .int), (.array .int), (.array .int), (.array .long), (.array .long), (.array .boolean), (.array .boolean)]
  resolved := Array.replicate 216 none
  statics := none }

def pool3 : Array CpInfo := pool [(1, u "java/lang/Cloneable"), (0, .class_ 1), (0, u "java/lang/Object"), (0, .class_ 3)] 3

/-- java/lang/Cloneable -/
def k3 : Class := { plain "java/lang/Cloneable" (some 0) with
  accessFlags := 1537
  interfaces := #[]
  cf := some (fileOf pool3 2 #[] #[] 1537 4 #[] #[])
  fields := #[]
  methods := #[]
  instanceTypes := #[]
  staticTypes := #[]
  resolved := Array.replicate 8 none
  statics := none }

def pool4 : Array CpInfo := pool [(1, u "java/io/Serializable"), (0, .class_ 1), (0, u "java/lang/Object"), (0, .class_ 3)] 3

/-- java/io/Serializable -/
def k4 : Class := { plain "java/io/Serializable" (some 0) with
  accessFlags := 1537
  interfaces := #[]
  cf := some (fileOf pool4 2 #[] #[] 1537 4 #[] #[])
  fields := #[]
  methods := #[]
  instanceTypes := #[]
  staticTypes := #[]
  resolved := Array.replicate 8 none
  statics := none }

/-- the primitive byte -/
def k5 : Class := { plain "byte" none with kind := .primitive 'B', accessFlags := 0x411 }
/-- [B -/
def k6 : Class := { plain "[B" (some 0) with kind := .array 5 .byte, interfaces := #[3, 4], accessFlags := 1041 }

/-- the primitive int -/
def k7 : Class := { plain "int" none with kind := .primitive 'I', accessFlags := 0x411 }
/-- [I -/
def k8 : Class := { plain "[I" (some 0) with kind := .array 7 .int, interfaces := #[3, 4], accessFlags := 1041 }

def heap : Heap := #[]
def classes : Array Class := #[k0, k1, k2, k3, k4, k5, k6, k7, k8]
def interned : List (Array UInt16 × Addr) := []
def slotsUsed : Nat := 0
def theMethod : MethodId := ⟨1, 2⟩
def args0 : Array Value := #[.int 5, .int 2, .int 3, .int 1]
def aboutOver (below : List Frame) : State where
  vm := { classes := classes, interned := interned.toArray }
  heap := heap
  slotsUsed := slotsUsed
  threads := #[{ frames := .invoking theMethod args0 :: below }]
def below0 : List Frame := [.native { method := ⟨0, 0⟩, args := #[] }]
def about1 : State := aboutOver below0
def p0 : Program := .bare "" "" ""
def e0 : Env := launch0.env 0 0 0
theorem w_frames : about1.frames = Frame.invoking theMethod args0 :: below0 := rfl
set_option maxRecDepth 65536 in
theorem w_args : argsFit about1.vm theMethod args0 = true := by decide +kernel
set_option maxRecDepth 65536 in
theorem w_heap : heapFits about1 = true := by decide +kernel
set_option maxRecDepth 65536 in
theorem w_runnable : about1.curStatus? = some .runnable := by decide +kernel
set_option maxRecDepth 65536 in
theorem w_alone : about1.alone = true := by decide +kernel
set_option maxRecDepth 65536 in
theorem w_named : about1.methodNamed? x = some theMethod := by decide +kernel
set_option maxRecDepth 65536 in
theorem w_hears : about1.hears theMethod below0 = true := by decide +kernel
set_option maxRecDepth 65536 in
theorem w_ripe : about1.ripe theMethod args0 below0 = true := by decide +kernel
theorem w_running : about1.status = .running := rfl
set_option maxRecDepth 65536 in
theorem w_room : about1.hasRoom e0.platform room_1 = true :=
  launch0.hasRoom_least _ room_1 (by decide +kernel) (by decide +kernel) (by decide +kernel) (by decide +kernel) (by decide +kernel) (by decide +kernel)
theorem allAtoms_all (ts : List Jvm.Cond) (a : Array Jvm.Value) (st : Jvm.State) : (allAtoms ts).before a st = ts.all (fun c => c.before a st) := by
  induction ts with
  | nil => rfl
  | cons c t ih =>
    show (Jvm.Cond.and c (allAtoms t)).before a st = _
    rw [Jvm.Cond.before_and, ih, List.all_cons]
def words1 : List Jvm.Cond := Jvm.Cond.code x code maxLocals ret :: tables_1
/-- a 'code' word, met by the world's own term for the bytes: nothing is compared byte by byte -/
theorem code_word {y : MethodName} {bytes : ByteArray} {mx : Nat} {rt : Option FieldType} {a : Array Value} {s : State} {m : MethodId} {meth : Method} {c : Code} (h1 : s.methodNamed? y = some m) (h2 : s.vm.method? m = some meth) (h3 : meth.code = some c) (h4 : c.code = bytes)
    (h5 : (c.maxLocals == mx && c.exceptionTable.isEmpty && decide (c.maxStack ≤ mostOperands) && decide (meth.sig.returnType = rt) && !meth.locks && decide (parseMethodDescriptor y.desc = some meth.sig)) = true) : (Jvm.Cond.code y bytes mx rt).before a s = true := by
  simp only [Bool.and_eq_true, beq_iff_eq, Bool.not_eq_true', decide_eq_true_eq] at h5
  obtain ⟨⟨⟨⟨⟨g1, g2⟩, g3⟩, g4⟩, g5⟩, g6⟩ := h5
  simp [Cond.before, Cond.holds, Cond.value, h1, h2, h3, h4, g1, g2, g3, g4, g5, g6]
def isCode : Jvm.Cond → Bool
  | .code _ _ _ _ => true
  | _ => false
theorem all_split {L : List Jvm.Cond} {P : Jvm.Cond → Bool} (h1 : L.all (fun c => isCode c || P c) = true) (h2 : ∀ c ∈ L.filter isCode, P c = true) : L.all P = true := by
  refine List.all_eq_true.mpr fun c hc => ?_
  have h := List.all_eq_true.mp h1 c hc
  rcases Bool.eq_false_or_eq_true (isCode c) with hi | hi
  · exact h2 c (List.mem_filter.mpr ⟨hc, hi⟩)
  · simpa [hi] using h
set_option maxRecDepth 65536 in
theorem w_c0 : (Jvm.Cond.code x code maxLocals ret).before args0 about1 = true := code_word (m := ⟨1, 2⟩) (meth := k1m2) (c := k1c2) (by decide +kernel) rfl rfl rfl (by decide +kernel)
set_option maxRecDepth 65536 in
theorem w_c1 : (Jvm.Cond.code ({ cls := "com/example/taggen/taggen/XmlChars", name := "isNameStartChar", desc := "(I)Z" } : Jvm.MethodName) prog_32_method_3_code (1 : Nat) (Option.some Jvm.ClassFile.FieldType.boolean)).before args0 about1 = true := code_word (m := ⟨2, 1⟩) (meth := k2m1) (c := k2c1) (by decide +kernel) rfl rfl rfl (by decide +kernel)
set_option maxRecDepth 65536 in
theorem w_c2 : (Jvm.Cond.code ({ cls := "com/example/taggen/taggen/XmlCharsIsNameStartCharPinLaw", name := "reference", desc := "(I)Z" } : Jvm.MethodName) method_2_code (2 : Nat) (Option.some Jvm.ClassFile.FieldType.boolean)).before args0 about1 = true := code_word (m := ⟨1, 1⟩) (meth := k1m1) (c := k1c1) (by decide +kernel) rfl rfl rfl (by decide +kernel)
def codes1 : List Jvm.Cond := [Jvm.Cond.code x code maxLocals ret, Jvm.Cond.code ({ cls := "com/example/taggen/taggen/XmlChars", name := "isNameStartChar", desc := "(I)Z" } : Jvm.MethodName) prog_32_method_3_code (1 : Nat) (Option.some Jvm.ClassFile.FieldType.boolean), Jvm.Cond.code ({ cls := "com/example/taggen/taggen/XmlCharsIsNameStartCharPinLaw", name := "reference", desc := "(I)Z" } : Jvm.MethodName) method_2_code (2 : Nat) (Option.some Jvm.ClassFile.FieldType.boolean)]
set_option maxRecDepth 65536 in
theorem codes_eq : words1.filter isCode = codes1 := rfl
theorem w_codes : ∀ c ∈ words1.filter isCode, c.before args0 about1 = true := by
  rw [codes_eq]
  intro c hc
  simp only [codes1, List.mem_cons, List.not_mem_nil, or_false] at hc
  rcases hc with rfl | rfl | rfl
  · exact w_c0
  · exact w_c1
  · exact w_c2
set_option maxRecDepth 65536 in
theorem w_t1 : (words1.take 24).all (fun c => isCode c || c.before args0 about1) = true := by decide +kernel
set_option maxRecDepth 65536 in
theorem w_t2 : (words1.drop 24).all (fun c => isCode c || c.before args0 about1) = true := by decide +kernel
theorem w_tables : (allAtoms (Jvm.Cond.code x code maxLocals ret :: tables_1)).before args0 about1 = true := by
  rw [allAtoms_all]
  show words1.all (fun c => c.before args0 about1) = true
  refine all_split ?_ w_codes
  rw [← List.take_append_drop 24 words1, List.all_append, w_t1, w_t2]
  rfl
set_option maxRecDepth 65536 in
theorem w_case : (Jvm.Cond.and given_1 narrow_1).before args0 about1 = true := by decide +kernel
theorem w_applies : (headSpec (Jvm.Cond.code x code maxLocals ret :: tables_1) room_1).applies x e0.platform about1 = true :=
  (Spec.applies_iff w_frames).mpr ⟨w_running, w_runnable, w_alone, w_named, w_hears, w_ripe, w_room, w_tables⟩
theorem atStart : AtStart classFile x code maxLocals ret World_1 tables_1 room_1 Calls_1 rest_1 Pre_1 launch0 p0 e0 about1 theMethod args0 below0 :=
  ⟨lists_1, trivial, launch0.admits_env _ _ _, launch0.least_env, fairChoices_fair.cas, fairChoices_fair.clock, w_frames, w_args, w_heap, w_applies, trivial, trivial, w_case⟩
end start1
theorem witness_1 : WitnessClaimed_1 := ⟨start1.p0, start1.e0, start1.about1, start1.theMethod, start1.args0, start1.below0, start1.atStart⟩
end Jvm.Pilot.@@N@@
