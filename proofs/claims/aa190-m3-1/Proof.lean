import JvmDerived
import JvmDerived.Pilot.@@N@@Statement
import JvmDerived.Pilot.@@N@@Code
set_option linter.unusedVariables false
set_option linter.unusedSimpArgs false
namespace Jvm.Own
open Jvm Jvm.ClassFile Sem Op Lib Jvm.Free Jvm.Stand Jvm.LawKit Jvm.RoadKit
/-! ## A heap told by a list: each new object or array by its address and what its cell is -/
abbrev Des : Type := State → Cell → Prop
abbrev RL : Type := List (Addr × Des)
/-- an object of class C, its fields (name, descriptor, value), all declared in C -/
def Obj (C : String) (fs : List (String × String × Value)) : Des := fun Z c =>
  Exa Z (#[c] : Heap) 0 C ∧ (∀ (j : Nat) (x : String × String × Value), fs[j]? = some x → Fld Z (#[c] : Heap) 0 C x.1 x.2.1 x.2.2) ∧
  ∀ (i j : Nat) (x y : String × String × Value), i ≠ j → fs[i]? = some x → fs[j]? = some y → Jvm.RoadKit.slotOf Z C x.1 x.2.1 ≠ Jvm.RoadKit.slotOf Z C y.1 y.2.1
/-- an array of ty, all its values -/
def Ar (ty : FieldType) (vs : List Value) : Des := fun Z c => Z.isArrayOf c ty ∧ c.vm ≠ .unknown ∧ c.slots.toList = vs ∧ (∀ v ∈ vs, fits ty v = true) ∧ Exa Z (#[c] : Heap) 0 ("[" ++ ty.toString)
/-- every one of L lies in h, at or behind n0, no two at one place -/
def Rep (Z : State) (n0 : Nat) (h : Heap) (L : RL) : Prop := n0 ≤ h.size ∧ (L.map (·.1)).Nodup ∧ ∀ x ∈ L, n0 ≤ x.1 ∧ ∃ c : Cell, h[x.1]? = some c ∧ x.2 Z c
section Facts
variable {Z : State} {n0 : Nat} {h h' : Heap} {L : RL} {a : Addr} {c : Cell} {C n d : String} {v w : Value} {i j : Nat} {fs : List (String × String × Value)} {P P' : Des} {ty : FieldType} {vs : List Value}
theorem one_eq {c c' : Cell} (q : (#[c] : Heap)[0]? = some c') : c' = c := by simpa using q.symm
theorem fld_of (hc : h[a]? = some c) (F : Fld Z (#[c] : Heap) 0 C n d v) : Fld Z h a C n d v := by
  obtain ⟨cell, cf, k, i, f, h1, r⟩ := F
  cases one_eq h1
  exact ⟨_, cf, k, i, f, hc, r⟩
theorem fld_to (hc : h[a]? = some c) (F : Fld Z h a C n d v) : Fld Z (#[c] : Heap) 0 C n d v := by
  obtain ⟨cell, cf, k, i, f, h1, r⟩ := F
  cases hc.symm.trans h1
  exact ⟨_, cf, k, i, f, rfl, r⟩
theorem exa_of (hc : h[a]? = some c) (F : Exa Z (#[c] : Heap) 0 C) : Exa Z h a C := by
  obtain ⟨cell, k, h1, r⟩ := F
  cases one_eq h1
  exact ⟨_, k, hc, r⟩
theorem exa_to (hc : h[a]? = some c) (F : Exa Z h a C) : Exa Z (#[c] : Heap) 0 C := by
  obtain ⟨cell, k, h1, r⟩ := F
  cases hc.symm.trans h1
  exact ⟨_, k, rfl, r⟩
theorem Rep.nil (h : Heap) : Rep Z h.size h [] := ⟨Nat.le_refl _, List.nodup_nil, fun _ q => nomatch q⟩
theorem Rep.at (R : Rep Z n0 h L) (hi : L[i]? = some (a, P)) : n0 ≤ a ∧ ∃ c : Cell, h[a]? = some c ∧ P Z c := R.2.2 _ (List.mem_of_getElem? hi)
theorem Rep.ge (R : Rep Z n0 h L) (hi : L[i]? = some (a, P)) : n0 ≤ a := (R.at hi).1
theorem Rep.fld (R : Rep Z n0 h L) (hi : L[i]? = some (a, Obj C fs)) (hj : fs[j]? = some (n, d, v)) : Fld Z h a C n d v := by
  obtain ⟨-, c, hc, -, F, -⟩ := R.at hi
  exact fld_of hc (F j _ hj)
theorem Rep.exa (R : Rep Z n0 h L) (hi : L[i]? = some (a, Obj C fs)) : Exa Z h a C := by
  obtain ⟨-, c, hc, E, -⟩ := R.at hi
  exact exa_of hc E
theorem Rep.arr (R : Rep Z n0 h L) (hi : L[i]? = some (a, Ar ty vs)) : ∃ cl : Cell, Arr Z h a cl ty ∧ cl.slots.toList = vs := by
  obtain ⟨-, c, hc, A, B, V, -⟩ := R.at hi
  exact ⟨c, ⟨hc, A, B⟩, V⟩
theorem Rep.arr' (R : Rep Z n0 h L) (hi : L[i]? = some (a, Ar ty vs)) : ∃ cl : Cell, Arr Z h a cl ty ∧ cl.slots.toList = vs ∧ (∀ v ∈ vs, fits ty v = true) ∧ Exa Z h a ("[" ++ ty.toString) := by
  obtain ⟨-, c, hc, A, B, V, F, E⟩ := R.at hi
  exact ⟨c, ⟨hc, A, B⟩, V, F, exa_of hc E⟩
theorem wr_one {sl : Nat} (hc : h[a]? = some c) (W : Wr h h' a sl v) : Wr (#[c] : Heap) (#[c.setSlot sl v] : Heap) 0 sl v := by
  obtain ⟨cell, h1, h2, h3, -⟩ := W
  cases hc.symm.trans h1
  exact ⟨_, rfl, h2, h3, rfl⟩
theorem Rep.upd {sl : Nat} (R : Rep Z n0 h L) (hi : L[i]? = some (a, P)) (W : Wr h h' a sl v) (hP : ∀ c : Cell, h[a]? = some c → P Z c → P' Z (c.setSlot sl v)) : Rep Z n0 h' (L.set i (a, P')) := by
  have em : (L.set i (a, P')).map (·.1) = L.map (·.1) := by
    rw [List.map_set]
    apply List.ext_getElem?
    intro k
    rw [List.getElem?_set]
    split
    · rename_i e; subst e
      split
      · simp [hi]
      · rename_i e; simp only [List.length_map] at e; simp [List.getElem?_eq_none (Nat.le_of_not_lt e)]
    · rfl
  have il : i < L.length := (List.getElem?_eq_some_iff.mp hi).1
  refine ⟨by rw [W.size]; exact R.1, by rw [em]; exact R.2.1, fun x hx => ?_⟩
  obtain ⟨k, hk⟩ := List.mem_iff_getElem?.mp hx
  rw [List.getElem?_set] at hk
  split at hk
  · rename_i e; subst e
    cases hk
    obtain ⟨g, c, hc, p⟩ := R.at hi
    obtain ⟨c', e1, -, -, -, -, -, e7⟩ := wr_at W hc
    exact ⟨g, c', e1, by rw [(e7 rfl).1]; exact hP c hc p⟩
  · rename_i e
    obtain ⟨g, c, hc, p⟩ := R.2.2 x (List.mem_of_getElem? hk)
    have ne : x.1 ≠ a := fun q => by
      refine e ((List.getElem?_inj (l := L.map (·.1)) (by simpa using il) R.2.1).mp ?_)
      simp [hi, hk, q]
    obtain ⟨c', e1, -, -, -, e5, -⟩ := wr_at W hc
    exact ⟨g, c', e1, by rw [e5 ne]; exact p⟩
theorem Rep.put (R : Rep Z n0 h L) (hi : L[i]? = some (a, Obj C fs)) (hj : fs[j]? = some (n, d, w)) (W : Wr h h' a (Jvm.RoadKit.slotOf Z C n d) v) : Rep Z n0 h' (L.set i (a, Obj C (fs.set j (n, d, v)))) := by
  refine R.upd hi W fun c hc ⟨E, F, S⟩ => ?_
  have W1 := wr_one hc W
  have jl : j < fs.length := (List.getElem?_eq_some_iff.mp hj).1
  have key : ∀ (k : Nat) (x : String × String × Value), (fs.set j (n, d, v))[k]? = some x → ∃ y, fs[k]? = some y ∧ y.1 = x.1 ∧ y.2.1 = x.2.1 ∧ (k ≠ j → y = x) ∧ (k = j → x = (n, d, v)) := by
    intro k x hk
    rw [List.getElem?_set] at hk
    split at hk
    · rename_i e; subst e
      have hx := (Option.some.inj hk).symm
      exact ⟨(n, d, w), hj, by rw [hx], by rw [hx], fun q => absurd rfl q, fun _ => hx⟩
    · rename_i e
      exact ⟨x, hk, rfl, rfl, fun _ => rfl, fun q => absurd q.symm e⟩
  refine ⟨E.wr W1, fun k x hk => ?_, fun k k' x y ne hk hk' => ?_⟩
  · obtain ⟨y, y1, y2, y3, y4, y5⟩ := key k x hk
    by_cases e : k = j
    · subst e
      have hx := y5 rfl
      rw [hx]
      exact (F _ _ hj).same W1
    · have hx := y4 e
      subst hx
      have s : Jvm.RoadKit.slotOf Z C y.1 y.2.1 ≠ Jvm.RoadKit.slotOf Z C n d := S k j y (n, d, w) e y1 hj
      exact Fld.other W1 (F k y y1) (Or.inr s)
  · have kx := key k x hk
    have ky := key k' y hk'
    obtain ⟨x', x1, x2, x3, _⟩ := kx
    obtain ⟨y', y1, y2, y3, _⟩ := ky
    have := S k k' x' y' ne x1 y1
    rw [x2, x3, y2, y3] at this
    exact this
theorem Rep.sto {k : Nat} (R : Rep Z n0 h L) (hi : L[i]? = some (a, Ar ty vs)) (W : Wr h h' a k v) (hf : fits ty v = true) : Rep Z n0 h' (L.set i (a, Ar ty (vs.set k v))) := by
  refine R.upd hi W fun c hc ⟨A, B, V, F, E⟩ => ⟨A, B, ?_, fun x hx => ?_, E.wr (wr_one hc W)⟩
  · show (c.slots.setIfInBounds k v).toList = _
    rw [Array.toList_setIfInBounds, V]
  · rcases List.mem_or_eq_of_mem_set hx with q | q
    · exact F x q
    · rw [q]; exact hf
theorem Rep.add (R : Rep Z n0 h L) (E : Ext h h') (g : a = h.size) (hc : h'[a]? = some c) (p : P Z c) : Rep Z n0 h' ((a, P) :: L) := by
  refine ⟨Nat.le_trans R.1 E.1, ?_, fun x hx => ?_⟩
  · rw [List.map_cons, List.nodup_cons]
    refine ⟨fun q => ?_, R.2.1⟩
    obtain ⟨x, hx, e⟩ := List.mem_map.mp q
    obtain ⟨-, c, hc, -⟩ := R.2.2 x hx
    have := (Array.getElem?_eq_some_iff.mp hc).1
    exact absurd (e.trans g) (Nat.ne_of_lt this)
  · rcases List.mem_cons.mp hx with rfl | hx
    · exact ⟨g ▸ R.1, c, hc, p⟩
    · obtain ⟨q, c, hc, p⟩ := R.2.2 x hx
      exact ⟨q, c, E.2 _ _ hc, p⟩
theorem Rep.ext (R : Rep Z n0 h L) (E : Ext h h') : Rep Z n0 h' L := ⟨Nat.le_trans R.1 E.1, R.2.1, fun x hx => by
  obtain ⟨q, c, hc, p⟩ := R.2.2 x hx
  exact ⟨q, c, E.2 _ _ hc, p⟩⟩
theorem perm_front {α : Type} : ∀ (L : List α) (i : Nat) (x : α), L[i]? = some x → (x :: L.eraseIdx i).Perm L
  | [], _, _, q => nomatch q
  | y :: t, 0, x, q => by cases q; exact List.Perm.refl _
  | y :: t, i + 1, x, q => by
    have ih := perm_front t i x (by simpa using q)
    exact (List.Perm.swap y x (t.eraseIdx i)).trans (ih.cons y)
theorem Rep.front {x : Addr × Des} {L' : RL} (R : Rep Z n0 h L) (i : Nat) (hi : L[i]? = some x) (e : L.eraseIdx i = L') : Rep Z n0 h (x :: L') := by
  subst e
  have pm : (x :: L.eraseIdx i).Perm L := perm_front L i x hi
  exact ⟨R.1, (pm.map _).nodup_iff.mpr R.2.1, fun y hy => R.2.2 y (pm.mem_iff.mp hy)⟩
theorem Rep.tail {x : Addr × Des} (R : Rep Z n0 h (x :: L)) : Rep Z n0 h L := ⟨R.1, (List.nodup_cons.mp (by simpa using R.2.1)).2, fun y hy => R.2.2 y (List.mem_cons_of_mem _ hy)⟩
/-- what the sheet says of the fields of a new object, one by one -/
def LaidAll (Z : State) (a0 : Array Value) (C : String) : List (String × String × Value) → Prop
  | [] => True
  | x :: r => (Laid Z a0 C C x.1 x.2.1 ∧ ∃ ty, parseFieldDescriptor x.2.1 = some ty ∧ x.2.2 = defaultValue ty) ∧ LaidAll Z a0 C r
theorem LaidAll.mem {a0 : Array Value} : ∀ {fs : List (String × String × Value)}, LaidAll Z a0 C fs → ∀ x ∈ fs, Laid Z a0 C C x.1 x.2.1 ∧ ∃ ty, parseFieldDescriptor x.2.1 = some ty ∧ x.2.2 = defaultValue ty
  | [], _, _, hx => nomatch hx
  | y :: r, q, x, hx => (List.mem_cons.mp hx).elim (fun e => e ▸ q.1) (LaidAll.mem q.2 x)
theorem Rep.newO {a0 : Array Value} (R : Rep Z n0 h L) (E : Ext h h') (g : a = h.size) (A : Exa Z h' a C) (D : ∀ {O nm d : String} {ty : FieldType}, Laid Z a0 C O nm d → parseFieldDescriptor d = some ty → Fld Z h' a O nm d (defaultValue ty)) (hl : LaidAll Z a0 C fs) (hn : (fs.map (·.1)).Nodup) : Rep Z n0 h' ((a, Obj C fs) :: L) := by
  obtain ⟨c, k, hc, r⟩ := id A
  refine R.add E g hc ⟨exa_to hc A, fun j x hx => ?_, fun i j x y ne hx hy e => ?_⟩
  · obtain ⟨l, ty, p, q⟩ := hl.mem x (List.mem_of_getElem? hx)
    rw [q]; exact fld_to hc (D l p)
  · obtain ⟨l, ty, p, q⟩ := hl.mem x (List.mem_of_getElem? hx)
    obtain ⟨l', ty', p', q'⟩ := hl.mem y (List.mem_of_getElem? hy)
    refine slot_ne l l' (fun en => ne ?_) p p' e
    refine (List.getElem?_inj (l := fs.map (·.1)) (by simpa using (List.getElem?_eq_some_iff.mp hx).1) hn).mp ?_
    simp [hx, hy, en]
theorem Rep.newAr {z : Int32} {k : ClassId} (R : Rep Z n0 h L) (E : Ext h h') (g : a = h.size) (A : Arr Z h' a (newA k ty z) ty) (X : Exa Z h' a ("[" ++ ty.toString)) (hf : fits ty (defaultValue ty) = true) (hv : List.replicate z.toNatClampNeg (defaultValue ty) = vs) : Rep Z n0 h' ((a, Ar ty vs) :: L) := by
  refine R.add E g A.1 ⟨A.2.1, A.2.2, ?_, fun v hq => ?_, exa_to A.1 X⟩
  · rw [← hv]; simp [newA]
  · rw [← hv] at hq; rw [List.eq_of_mem_replicate hq]; exact hf
theorem in_of {cl : Cell} {q : Int32} (V : cl.slots.toList = vs) (hq : ¬ q < 0) (hv : q.toNatClampNeg < vs.length) : ¬ (q < 0 ∨ cl.slots.size ≤ q.toNatClampNeg) := by
  rintro (q1 | q1)
  · exact hq q1
  · rw [← V, Array.length_toList] at hv; omega
theorem at_of {cl : Cell} {k : Nat} (V : cl.slots.toList = vs) (hv : vs[k]? = some v) : cl.slots[k]? = some v := by
  rw [← hv, ← V, Array.getElem?_toList]
theorem lt_of {k : Nat} (hv : vs[k]? = some v) : k < vs.length := (List.getElem?_eq_some_iff.mp hv).1
end Facts
/-! ## One law a step -/
section Steps
variable {p : Program} {l : Launch} {e : Env} {R : Room} {s : State} {m : MethodId} {args : Array Value} {below : List Frame} {meth : Method} {c : Code} {T : State} {locs : List Loc} {cells slots : Nat} {Z : State} {a0 : Array Value} {h : Heap} {n0 : Nat} {L : RL}
theorem gGet (X : Stand p l e R s m args below meth c T locs cells slots) (hx : p.tables.exec = Jvm.exec) (hZ : Z.Warmed39 s.vm) {own C n d host : String} {index : Nat} (hown : s.vm.findClass own = some m.cls) (w : (Cond.fieldLink own index C n d).before a0 Z = true ∨ (Cond.fieldLinkNest own index C n d host).before a0 Z = true)
    (eT : T.heap = h) (Q : Rep Z n0 h L) (i j : Nat) {a : Addr} {fs : List (String × String × Value)} {v : Value} (hi : L[i]? = some (a, Obj C fs)) (hj : fs[j]? = some (n, d, v)) {g : JFrame} (hg : g.method = m) {rest : List Value} (hs : g.stack = .ref a :: rest) (hd : decode c.code g.pc = .ok (.getfield index, 3)) :
    ∃ T', Stand p l e R s m args below meth c T' locs cells slots ∧ T'.heap = h ∧ ∀ target, Steps p.tables e below (T'.setTop { g with pc := g.pc + 3, stack := v :: rest }) target → Steps p.tables e below (T.setTop g) target :=
  getF X hx hZ hown w Via.refl eT (Q.fld hi hj) hg hs hd
theorem gPut (X : Stand p l e R s m args below meth c T locs cells slots) (hx : p.tables.exec = Jvm.exec) (hZ : Z.Warmed39 s.vm) {own C n d host : String} {index kk : Nat} {ty : FieldType} (hown : s.vm.findClass own = some m.cls) (w : (Cond.fieldLink own index C n d).before a0 Z = true ∨ (Cond.fieldLinkNest own index C n d host).before a0 Z = true)
    (eT : T.heap = h) (N : Fr n0 locs) (Q : Rep Z n0 h L) (i j : Nat) {a : Addr} {fs : List (String × String × Value)} {v old : Value} (hi : L[i]? = some (a, Obj C fs)) (hj : fs[j]? = some (n, d, old))
    (Lw : (Cond.lays C C n d).before a0 Z = true ∨ ((Cond.laysFinal C C n d).before a0 Z = true ∧ own = C ∧ meth.name = "<init>")) (wi : (Cond.instantiable C kk).before a0 Z = true)
    (hty : parseFieldDescriptor d = some ty) (hn : narrow ty v = v) (hf : fits ty v = true) {g : JFrame} (hg : g.method = m) {rest : List Value} (hs : g.stack = v :: .ref a :: rest) (hd : decode c.code g.pc = .ok (.putfield index, 3)) :
    ∃ T' h' locs', Stand p l e R s m args below meth c T' locs' cells slots ∧ T'.heap = h' ∧ Fr n0 locs' ∧ Rep Z n0 h' (L.set i (a, Obj C (fs.set j (n, d, v)))) ∧ ∀ target, Steps p.tables e below (T'.setTop { g with pc := g.pc + 3, stack := rest }) target → Steps p.tables e below (T.setTop g) target := by
  obtain ⟨T', h', X', e', W, st⟩ := putF X hx hZ hown w Via.refl eT (Q.fld hi hj) (Q.exa hi) Lw wi hty hn hf hg hs hd
  exact ⟨T', h', _, X', e', Fr.snoc X' N (Q.ge hi), Q.put hi hj W, st⟩
theorem gNew (X : Stand p l e R s m args below meth c T locs cells slots) (hx : p.tables.exec = Jvm.exec) (hZ : Z.Warmed39 s.vm) {own C : String} {index n : Nat} (hown : s.vm.findClass own = some m.cls) (w : (Cond.classLink own index C).before a0 Z = true) (wi : (Cond.instantiable C n).before a0 Z = true) (wz : (Cond.initialized C).before a0 Z = true)
    (eT : T.heap = h) (Q : Rep Z n0 h L) {fs : List (String × String × Value)} (hl : LaidAll Z a0 C fs) (hn : (fs.map (·.1)).Nodup) {g : JFrame} (hg : g.method = m) (hd : decode c.code g.pc = .ok (.new index, 3)) (hc : cells + 1 ≤ R.cells) (hs : slots + n ≤ R.slots) :
    ∃ T' h' a, Stand p l e R s m args below meth c T' locs (cells + 1) (slots + n) ∧ T'.heap = h' ∧ Rep Z n0 h' ((a, Obj C fs) :: L) ∧ ∀ target, Steps p.tables e below (T'.setTop { g with pc := g.pc + 3, stack := .ref a :: g.stack }) target → Steps p.tables e below (T.setTop g) target := by
  obtain ⟨T', h', X', e', E, A, D, -, st⟩ := newO X hx hZ hown w wi wz eT hg hd hc hs
  exact ⟨T', h', _, X', e', Q.newO E rfl A D hl hn, st⟩
theorem gNewP (X : Stand p l e R s m args below meth c T locs cells slots) (hx : p.tables.exec = Jvm.exec) (hZ : Z.Warmed39 s.vm) {aty : ArrayType} (w : (Cond.arrayClass (newarray.typeOf aty)).before a0 Z = true)
    (eT : T.heap = h) (Q : Rep Z n0 h L) {g : JFrame} (hg : g.method = m) (hd : decode c.code g.pc = .ok (.newarray aty, 2)) {n : Int32} {rest : List Value} (hs : g.stack = .int n :: rest) (hn : ¬ n < 0) (cap : Nat) (hcap : n.toNatClampNeg ≤ cap) (hb : cap * 8 ≤ 536870912) (hc : cells + 1 ≤ R.cells) (hl : slots + cap ≤ R.slots)
    {vs : List Value} (hv : List.replicate n.toNatClampNeg (defaultValue (newarray.typeOf aty)) = vs) :
    ∃ T' h' a, Stand p l e R s m args below meth c T' locs (cells + 1) (slots + cap) ∧ T'.heap = h' ∧ Rep Z n0 h' ((a, Ar (newarray.typeOf aty) vs) :: L) ∧ ∀ target, Steps p.tables e below (T'.setTop { g with pc := g.pc + 2, stack := .ref a :: rest }) target → Steps p.tables e below (T.setTop g) target := by
  obtain ⟨T', h', cA, X', e', E, A, EX, st⟩ := newPE X hx hZ w eT hg hd hs hn hcap hb hc hl rfl
  exact ⟨T', h', _, X', e', Q.newAr E rfl A EX (by cases aty <;> rfl) hv, st⟩
theorem gLen (X : Stand p l e R s m args below meth c T locs cells slots) (hx : p.tables.exec = Jvm.exec) (hZ : Z.Warmed39 s.vm) (eT : T.heap = h) (Q : Rep Z n0 h L) (i : Nat) {a : Addr} {ty : FieldType} {vs : List Value} (hi : L[i]? = some (a, Ar ty vs))
    {g : JFrame} (hg : g.method = m) {rest : List Value} (hs : g.stack = .ref a :: rest) (hd : decode c.code g.pc = .ok (.arraylength, 1)) {z : Int32} (hz : Int32.ofNat vs.length = z) :
    ∀ target, Steps p.tables e below (T.setTop { g with pc := g.pc + 1, stack := .int z :: rest }) target → Steps p.tables e below (T.setTop g) target := by
  obtain ⟨cl, A, V⟩ := Q.arr hi
  intro target k
  refine X.arraylength hx (cell := cl) (by rw [eT]; exact A.1) (State.isArrayOf_alike hZ.alike A.2.1) hg hs hd _ ?_
  have q : cl.slots.size.toInt32 = z := by rw [← hz, ← V, Array.length_toList]
  rw [q]; exact k
theorem gIald (X : Stand p l e R s m args below meth c T locs cells slots) (hx : p.tables.exec = Jvm.exec) (hZ : Z.Warmed39 s.vm) (eT : T.heap = h) (Q : Rep Z n0 h L) (i : Nat) {a : Addr} {vs : List Value} (hi : L[i]? = some (a, Ar .int vs))
    {j : Int32} {v : Value} (hj : ¬ j < 0) (hv : vs[j.toNatClampNeg]? = some v) {g : JFrame} (hg : g.method = m) {rest : List Value} (hs : g.stack = .int j :: .ref a :: rest) (hd : decode c.code g.pc = .ok (.iaload, 1)) :
    ∀ target, Steps p.tables e below (T.setTop { g with pc := g.pc + 1, stack := v :: rest }) target → Steps p.tables e below (T.setTop g) target := by
  obtain ⟨cl, A, V⟩ := Q.arr hi
  intro target k
  exact X.iaload hx (by rw [eT]; exact A.1) (State.isArrayOf_alike hZ.alike A.2.1) A.2.2 (in_of V hj (lt_of hv)) (at_of V hv) hg hs hd _ k
theorem gLald (X : Stand p l e R s m args below meth c T locs cells slots) (hx : p.tables.exec = Jvm.exec) (hZ : Z.Warmed39 s.vm) (eT : T.heap = h) (Q : Rep Z n0 h L) (i : Nat) {a : Addr} {vs : List Value} (hi : L[i]? = some (a, Ar .long vs))
    {j : Int32} {v : Value} (hj : ¬ j < 0) (hv : vs[j.toNatClampNeg]? = some v) {g : JFrame} (hg : g.method = m) {rest : List Value} (hs : g.stack = .int j :: .ref a :: rest) (hd : decode c.code g.pc = .ok (.laload, 1)) :
    ∀ target, Steps p.tables e below (T.setTop { g with pc := g.pc + 1, stack := v :: rest }) target → Steps p.tables e below (T.setTop g) target := by
  obtain ⟨cl, A, V⟩ := Q.arr hi
  intro target k
  exact X.laload hx (by rw [eT]; exact A.1) (State.isArrayOf_alike hZ.alike A.2.1) A.2.2 (in_of V hj (lt_of hv)) (at_of V hv) hg hs hd _ k
theorem gBald (X : Stand p l e R s m args below meth c T locs cells slots) (hx : p.tables.exec = Jvm.exec) (hZ : Z.Warmed39 s.vm) (eT : T.heap = h) (Q : Rep Z n0 h L) (i : Nat) {a : Addr} {vs : List Value} (hi : L[i]? = some (a, Ar .byte vs))
    {j : Int32} {v : Value} (hj : ¬ j < 0) (hv : vs[j.toNatClampNeg]? = some v) {g : JFrame} (hg : g.method = m) {rest : List Value} (hs : g.stack = .int j :: .ref a :: rest) (hd : decode c.code g.pc = .ok (.baload, 1)) :
    ∀ target, Steps p.tables e below (T.setTop { g with pc := g.pc + 1, stack := v :: rest }) target → Steps p.tables e below (T.setTop g) target := by
  obtain ⟨cl, A, V⟩ := Q.arr hi
  intro target k
  exact X.baloadBytes hx (by rw [eT]; exact A.1) (State.isArrayOf_alike hZ.alike A.2.1) A.2.2 (in_of V hj (lt_of hv)) (at_of V hv) hg hs hd _ k
theorem gIst (X : Stand p l e R s m args below meth c T locs cells slots) (hx : p.tables.exec = Jvm.exec) (hZ : Z.Warmed39 s.vm) (eT : T.heap = h) (N : Fr n0 locs) (Q : Rep Z n0 h L) (i : Nat) {a : Addr} {vs : List Value} (hi : L[i]? = some (a, Ar .int vs))
    {j x : Int32} (hj : ¬ j < 0) (k : Nat) (hk : j.toNatClampNeg = k) (hv : k < vs.length) {g : JFrame} (hg : g.method = m) {rest : List Value} (hs : g.stack = .int x :: .int j :: .ref a :: rest) (hd : decode c.code g.pc = .ok (.iastore, 1)) :
    ∃ T' h' locs', Stand p l e R s m args below meth c T' locs' cells slots ∧ T'.heap = h' ∧ Fr n0 locs' ∧ Rep Z n0 h' (L.set i (a, Ar .int (vs.set k (.int x)))) ∧ ∀ target, Steps p.tables e below (T'.setTop { g with pc := g.pc + 1, stack := rest }) target → Steps p.tables e below (T.setTop g) target := by
  obtain ⟨cl, A, V⟩ := Q.arr hi
  subst hk
  obtain ⟨T', h', X', e', W, st⟩ := stI X hx hZ eT A (j := j) (x := x) (in_of V hj hv) hg hs hd
  exact ⟨T', h', _, X', e', Fr.snoc X' N (Q.ge hi), Q.sto hi W rfl, st⟩
theorem gLst (X : Stand p l e R s m args below meth c T locs cells slots) (hx : p.tables.exec = Jvm.exec) (hZ : Z.Warmed39 s.vm) (eT : T.heap = h) (N : Fr n0 locs) (Q : Rep Z n0 h L) (i : Nat) {a : Addr} {vs : List Value} (hi : L[i]? = some (a, Ar .long vs))
    {j : Int32} {x : Int64} (hj : ¬ j < 0) (k : Nat) (hk : j.toNatClampNeg = k) (hv : k < vs.length) {g : JFrame} (hg : g.method = m) {rest : List Value} (hs : g.stack = .long x :: .int j :: .ref a :: rest) (hd : decode c.code g.pc = .ok (.lastore, 1)) :
    ∃ T' h' locs', Stand p l e R s m args below meth c T' locs' cells slots ∧ T'.heap = h' ∧ Fr n0 locs' ∧ Rep Z n0 h' (L.set i (a, Ar .long (vs.set k (.long x)))) ∧ ∀ target, Steps p.tables e below (T'.setTop { g with pc := g.pc + 1, stack := rest }) target → Steps p.tables e below (T.setTop g) target := by
  obtain ⟨cl, A, V⟩ := Q.arr hi
  subst hk
  obtain ⟨T', h', X', e', W, st⟩ := stJ X hx hZ eT A (j := j) (x := x) (in_of V hj hv) hg hs hd
  exact ⟨T', h', _, X', e', Fr.snoc X' N (Q.ge hi), Q.sto hi W rfl, st⟩
theorem gBst (X : Stand p l e R s m args below meth c T locs cells slots) (hx : p.tables.exec = Jvm.exec) (hZ : Z.Warmed39 s.vm) (eT : T.heap = h) (N : Fr n0 locs) (Q : Rep Z n0 h L) (i : Nat) {a : Addr} {vs : List Value} (hi : L[i]? = some (a, Ar .byte vs))
    {j x : Int32} (hj : ¬ j < 0) (k : Nat) (hk : j.toNatClampNeg = k) (hv : k < vs.length) {g : JFrame} (hg : g.method = m) {rest : List Value} (hs : g.stack = .int x :: .int j :: .ref a :: rest) (hd : decode c.code g.pc = .ok (.bastore, 1)) :
    ∃ T' h' locs', Stand p l e R s m args below meth c T' locs' cells slots ∧ T'.heap = h' ∧ Fr n0 locs' ∧ Rep Z n0 h' (L.set i (a, Ar .byte (vs.set k (.int x.toInt8.toInt32)))) ∧ ∀ target, Steps p.tables e below (T'.setTop { g with pc := g.pc + 1, stack := rest }) target → Steps p.tables e below (T.setTop g) target := by
  obtain ⟨cl, A, V⟩ := Q.arr hi
  subst hk
  obtain ⟨T', h', X', e', W, st⟩ := stB X hx hZ eT A (j := j) (x := x) (in_of V hj hv) hg hs hd
  exact ⟨T', h', _, X', e', Fr.snoc X' N (Q.ge hi), Q.sto hi W (fits_nar_byte x), st⟩
theorem gClone (X : Stand p l e R s m args below meth c T locs cells slots) (hx : p.tables.exec = Jvm.exec) (hZ : Z.Warmed39 s.vm) {own ad : String} {index : Nat} (hown : s.vm.findClass own = some m.cls)
    (w1 : (Cond.methodLink own index ⟨ad, "clone", "()Ljava/lang/Object;"⟩).before a0 Z = true) (w2 : (Cond.sameMethod ad "java/lang/Object" "clone" "()Ljava/lang/Object;").before a0 Z = true) (w3 : (Cond.native ⟨"java/lang/Object", "clone", "()Ljava/lang/Object;"⟩).before a0 Z = true)
    (w4 : (Cond.instanceMethod ⟨"java/lang/Object", "clone", "()Ljava/lang/Object;"⟩).before a0 Z = true) (w5 : (Cond.selects ad ⟨ad, "clone", "()Ljava/lang/Object;"⟩ ⟨"java/lang/Object", "clone", "()Ljava/lang/Object;"⟩).before a0 Z = true) (w6 : (Cond.castable ad "java/lang/Cloneable").before a0 Z = true)
    (eT : T.heap = h) (Q : Rep Z n0 h L) (i : Nat) {a : Addr} {ty : FieldType} {vs : List Value} (hi : L[i]? = some (a, Ar ty vs)) (had : "[" ++ ty.toString = ad) {g : JFrame} (hg : g.method = m) (hsize : g.locals.size = c.maxLocals) {rest : List Value} (hs : g.stack = .ref a :: rest) (hd : decode c.code g.pc = .ok (.invokevirtual index, 3))
    (hf : 1 ≤ R.frames) {W : Nat} (cap : Nat) (hW : 2 * g.monitorRoom + (rest.map fun v => v.category).sum ≤ W) (hl : W + 14 ≤ R.locals) (hcap : vs.length ≤ cap) (hc : cells + 1 ≤ R.cells) (hsl : slots + cap ≤ R.slots) :
    ∃ T' h' b, Stand p l e R s m args below meth c T' locs (cells + 1) (slots + cap) ∧ T'.heap = h' ∧ Rep Z n0 h' ((b, Ar ty vs) :: L) ∧ Exa Z h' b ad ∧
      ∀ target, Steps p.tables e below (T'.setTop { g with pc := g.pc + 3, stack := .ref b :: rest }) target → Steps p.tables e below (T.setTop g) target := by
  subst had
  obtain ⟨cl, A, V, F, E⟩ := Q.arr' hi
  have FC : FitC Z cl := fitC_of A fun k hk v hv => F v (by rw [← V]; exact Array.mem_toList_iff.mpr (Array.mem_of_getElem? hv))
  obtain ⟨T', h', X', e', ex, A', E', st⟩ := cloneA X hx hZ hown w1 w2 w3 w4 w5 w6 eT A E FC hg hsize hs hd hf hW hl (by rw [← V, Array.length_toList] at hcap; exact hcap) hc hsl
  exact ⟨T', h', _, X', e', Q.add ex rfl A'.1 ⟨A'.2.1, A'.2.2, V, F, exa_to A'.1 E'⟩, E', st⟩
theorem gCast (X : Stand p l e R s m args below meth c T locs cells slots) (hx : p.tables.exec = Jvm.exec) (hZ : Z.Warmed39 s.vm) {own K : String} {index : Nat} (hown : s.vm.findClass own = some m.cls) (w : (Cond.classLink own index K).before a0 Z = true) (eT : T.heap = h) {a : Addr} (E : Exa Z h a K)
    {g : JFrame} (hg : g.method = m) {rest : List Value} (hs : g.stack = .ref a :: rest) (hd : decode c.code g.pc = .ok (.checkcast index, 3)) : ∃ T', Stand p l e R s m args below meth c T' locs cells slots ∧ T'.heap = h ∧ ∀ target, Steps p.tables e below (T'.setTop { g with pc := g.pc + 3 }) target → Steps p.tables e below (T.setTop g) target :=
  castY X hx hZ hown w eT (Ins.self E) hg hs hd
theorem arv_of {a : Addr} {ty : FieldType} {vs : List Value} {dv : Value} {cl : Cell} (A : Arr Z h a cl ty) (V : cl.slots.toList = vs) (F : ∀ v ∈ vs, fits ty v = true) (hl : vs.length < 2 ^ 31) : Arv Z h a cl.cls ty (Int32.ofNat vs.length) vs dv := by
  have q : (Int32.ofNat vs.length).toNatClampNeg = vs.length := by
    rw [Int32.toNatClampNeg, Int32.toInt_ofNat_of_lt hl]; rfl
  have S : cl.slots.size = vs.length := by rw [← V, Array.length_toList]
  have G : ∀ k, k < cl.slots.size → cl.slots[k]? = some (vs.getD k dv) := fun k hk => by
    rw [← Array.getElem?_toList, V, List.getD_eq_getElem?_getD, List.getElem?_eq_getElem (by omega)]; rfl
  refine ⟨cl, A, rfl, by rw [q, S], ?_, G, fun k hk => ?_⟩
  · rw [Int32.lt_iff_toInt_lt, Int32.toInt_ofNat_of_lt hl, show (0 : Int32).toInt = 0 from rfl]; omega
  · rw [List.getD_eq_getElem?_getD, List.getElem?_eq_getElem (by omega)]
    exact F _ (List.getElem_mem _)
theorem Rep.kept {h' : Heap} {i : Nat} {b : Addr} {P P' : Des} {cb : Cell} (Q : Rep Z n0 h L) (hi : L[i]? = some (b, P)) (K : Keep h h' [b]) (hc : h'[b]? = some cb) (p : P' Z cb) : Rep Z n0 h' (L.set i (b, P')) := by
  have em : (L.set i (b, P')).map (·.1) = L.map (·.1) := by
    rw [List.map_set]
    apply List.ext_getElem?
    intro k
    rw [List.getElem?_set]
    split
    · rename_i e; subst e
      split
      · simp [hi]
      · rename_i e; simp only [List.length_map] at e; simp [List.getElem?_eq_none (Nat.le_of_not_lt e)]
    · rfl
  have il : i < L.length := (List.getElem?_eq_some_iff.mp hi).1
  refine ⟨Nat.le_trans Q.1 K.1, by rw [em]; exact Q.2.1, fun x hx => ?_⟩
  obtain ⟨k, hk⟩ := List.mem_iff_getElem?.mp hx
  rw [List.getElem?_set] at hk
  split at hk
  · rename_i e; subst e
    cases hk
    exact ⟨Q.ge hi, cb, hc, p⟩
  · rename_i e
    obtain ⟨g, c, hc', p'⟩ := Q.2.2 x (List.mem_of_getElem? hk)
    have ne : x.1 ≠ b := fun q => by
      refine e ((List.getElem?_inj (l := L.map (·.1)) (by simpa using il) Q.2.1).mp ?_)
      simp [hi, hk, q]
    exact ⟨g, c, K.2.1 _ _ hc' (by simpa using ne), p'⟩
theorem gCopy (X : Stand p l e R s m args below meth c T locs cells slots) (hx : p.tables.exec = Jvm.exec) (hZ : Z.Warmed39 s.vm) {own : String} {index : Nat} (hown : s.vm.findClass own = some m.cls)
    (w1 : (Cond.methodLink own index Jvm.Stand.acN).before a0 Z = true) (w2 : (Cond.native Jvm.Stand.acN).before a0 Z = true) (w3 : (Cond.static Jvm.Stand.acN).before a0 Z = true) (w4 : (Cond.initialized "java/lang/System").before a0 Z = true) (eT : T.heap = h) (N : Fr n0 locs) (Q : Rep Z n0 h L) (i j : Nat)
    {a b : Addr} {ty : FieldType} {vs vd : List Value} (hi : L[i]? = some (a, Ar ty vs)) (hj : L[j]? = some (b, Ar ty vd)) (hty : refKind ty = false) (l1 : vs.length < 2 ^ 31) (l2 : vd.length < 2 ^ 31) {sp dp nn : Int32} (h1 : ¬ sp < 0) (h2 : ¬ dp < 0) (h3 : ¬ nn < 0) (si di ni : Nat) (es : sp.toNatClampNeg = si) (ed : dp.toNatClampNeg = di) (en : nn.toNatClampNeg = ni)
    (h4 : si + ni ≤ vs.length) (h5 : di + ni ≤ vd.length)
    {g : JFrame} (hg : g.method = m) (hsize : g.locals.size = c.maxLocals) {rest : List Value} (hs : g.stack = .int nn :: .int dp :: .ref b :: .int sp :: .ref a :: rest) (hd : decode c.code g.pc = .ok (.invokestatic index, 3))
    (hf : 1 ≤ R.frames) {W : Nat} (hW : 2 * g.monitorRoom + (rest.map fun v => v.category).sum ≤ W) (hlo : W + (nativeFrameWords "java/lang/System" "arraycopy" 5 + 11) ≤ R.locals) :
    ∃ T' h' L', Stand p l e R s m args below meth c T' L' cells slots ∧ T'.heap = h' ∧ Fr n0 L' ∧ Rep Z n0 h' (L.set j (b, Ar ty (vd.take di ++ (vs.drop si).take ni ++ vd.drop (di + ni)))) ∧
      ∀ target, Steps p.tables e below (T'.setTop { g with pc := g.pc + 3, stack := rest }) target → Steps p.tables e below (T.setTop g) target := by
  subst es ed en
  obtain ⟨ca, A, Va, Fa, Ea⟩ := Q.arr' hi
  obtain ⟨cb, B, Vb, Fb, Eb⟩ := Q.arr' hj
  have za : (Int32.ofNat vs.length).toNatClampNeg = vs.length := by rw [Int32.toNatClampNeg, Int32.toInt_ofNat_of_lt l1]; rfl
  have zb : (Int32.ofNat vd.length).toNatClampNeg = vd.length := by rw [Int32.toNatClampNeg, Int32.toInt_ofNat_of_lt l2]; rfl
  have hus : (vs.drop sp.toNatClampNeg).take nn.toNatClampNeg = (List.range nn.toNatClampNeg).map fun k => vs.getD (sp.toNatClampNeg + k) .null := by
    apply List.ext_getElem?
    intro k
    rw [List.getElem?_take, List.getElem?_drop, List.getElem?_map]
    by_cases q : k < nn.toNatClampNeg
    · rw [if_pos q, List.getElem?_range q, List.getElem?_eq_getElem (by omega)]
      simp [List.getD_eq_getElem?_getD, List.getElem?_eq_getElem (show sp.toNatClampNeg + k < vs.length by omega)]
    · rw [if_neg q, List.getElem?_eq_none (by simpa using q)]; rfl
  obtain ⟨T', h', L', X', e', N', K, ⟨c', A', -, S', -, H', G'⟩, st⟩ := cpA X hx hZ hown w1 w2 w3 w4 eT (arv_of (dv := .null) A Va Fa l1) (arv_of (dv := .null) B Vb Fb l2) (Or.inl ⟨rfl, hty⟩) h1 h2 h3 (by rw [za]; exact h4) (by rw [zb]; exact h5) hus h5 N (Q.ge hj) hg hsize hs hd hf hW hlo
  refine ⟨T', h', L', X', e', N', Q.kept hj K A'.1 ⟨A'.2.1, A'.2.2, ?_, fun v hv => ?_, exa_to A'.1 (Eb.keep K)⟩, st⟩
  · apply List.ext_getElem?
    intro k
    rw [Array.getElem?_toList]
    by_cases q : k < c'.slots.size
    · rw [H' k q, List.getD_eq_getElem?_getD, List.getElem?_eq_getElem]
      · rfl
      · rw [S', zb] at q; simp only [List.length_append, List.length_take, List.length_drop]; omega
    · rw [Array.getElem?_eq_none (by omega), List.getElem?_eq_none]
      rw [S', zb] at q; simp only [List.length_append, List.length_take, List.length_drop]; omega
  · rcases List.mem_append.mp hv with hv | hv
    · rcases List.mem_append.mp hv with hv | hv
      · exact Fb v (List.mem_of_mem_take hv)
      · exact Fa v (List.mem_of_mem_drop (List.mem_of_mem_take hv))
    · exact Fb v (List.mem_of_mem_drop hv)
theorem gMono (X : Stand p l e R s m args below meth c T locs cells slots) {cells' slots' : Nat} (h1 : cells ≤ cells') (h2 : slots ≤ slots') : Stand p l e R s m args below meth c T locs cells' slots' := { X with same := X.same.mono h1 h2 }
theorem retI (X : Stand p l e R s m args below meth c T locs cells slots) (hx : p.tables.exec = Jvm.exec) {pc : Nat} {Ls : Array Slot} {z : Int32} {rest : List Value} (hret : meth.sig.returnType = some .int) (hd : decode c.code pc = .ok (.ireturn, 1)) {fs : List Frame}
    (hl : ∀ (f : JFrame) (acts : List Action), f.method = m → f.locked = none → f.entered = [] → (doReturn e (T.setTop f) acts (some (.int z))).1 = T.setFrames fs) : Steps p.tables e below (T.setTop (mkF m pc Ls (.int z :: rest))) (T.setFrames fs) := by
  have hm' : T.vm.method? m = some meth := X.method'
  have hn : narrow .int (.int z) = .int z := rfl
  show Steps p.tables e below (T.setTop { method := m, pc := pc, locals := Ls, stack := _ :: rest, locked := none }) _
  jvm_step X.here [X.here.top, hx, hd, hm', hret, hn]
  first | (intro acts; rw [hl _ acts rfl rfl rfl]) | rw [hl _ _ rfl rfl rfl]
  exact Steps.refl _
theorem retL (X : Stand p l e R s m args below meth c T locs cells slots) (hx : p.tables.exec = Jvm.exec) {pc : Nat} {Ls : Array Slot} {z : Int64} {rest : List Value} (hret : meth.sig.returnType = some .long) (hd : decode c.code pc = .ok (.lreturn, 1)) {fs : List Frame}
    (hl : ∀ (f : JFrame) (acts : List Action), f.method = m → f.locked = none → f.entered = [] → (doReturn e (T.setTop f) acts (some (.long z))).1 = T.setFrames fs) : Steps p.tables e below (T.setTop (mkF m pc Ls (.long z :: rest))) (T.setFrames fs) := by
  have hm' : T.vm.method? m = some meth := X.method'
  have hn : narrow .long (.long z) = .long z := rfl
  show Steps p.tables e below (T.setTop { method := m, pc := pc, locals := Ls, stack := _ :: rest, locked := none }) _
  jvm_step X.here [X.here.top, hx, hd, hm', hret, hn]
  first | (intro acts; rw [hl _ acts rfl rfl rfl]) | rw [hl _ _ rfl rfl rfl]
  exact Steps.refl _
theorem retA (X : Stand p l e R s m args below meth c T locs cells slots) (hx : p.tables.exec = Jvm.exec) {pc : Nat} {Ls : Array Slot} {a : Addr} {rest : List Value} {t : FieldType} (ht : t.isReference = true) (hret : meth.sig.returnType = some t) (hd : decode c.code pc = .ok (.areturn, 1)) {fs : List Frame}
    (hl : ∀ (f : JFrame) (acts : List Action), f.method = m → f.locked = none → f.entered = [] → (doReturn e (T.setTop f) acts (some (.ref a))).1 = T.setFrames fs) : Steps p.tables e below (T.setTop (mkF m pc Ls (.ref a :: rest))) (T.setFrames fs) := by
  have hm' : T.vm.method? m = some meth := X.method'
  show Steps p.tables e below (T.setTop { method := m, pc := pc, locals := Ls, stack := _ :: rest, locked := none }) _
  jvm_step X.here [X.here.top, hx, hd, hm', hret, ht, Value.isRef]
  first | (intro acts; rw [hl _ acts rfl rfl rfl]) | rw [hl _ _ rfl rfl rfl]
  exact Steps.refl _
end Steps
abbrev iushr (x y : Int32) : Int32 := (x.toUInt32 >>> (y &&& 31).toUInt32).toInt32
abbrev lushr (x : Int64) (y : Int32) : Int64 := (x.toUInt64 >>> (y &&& 0x3f).toInt64.toUInt64).toInt64
abbrev ishl (x y : Int32) : Int32 := x <<< (y &&& 31)
abbrev ishr (x y : Int32) : Int32 := x >>> (y &&& 31)
abbrev lshl (x : Int64) (y : Int32) : Int64 := x <<< (y &&& 0x3f).toInt64
abbrev lshr (x : Int64) (y : Int32) : Int64 := x >>> (y &&& 0x3f).toInt64
/-- a boolean told by a condition, as an int of the machine's -/
abbrev bz (P : Prop) [Decidable P] : Int32 := if P then 1 else 0
theorem nar_b (P : Prop) [Decidable P] : nar .boolean (bz P) = bz P := by unfold bz; split <;> rfl
theorem bz_t {P : Prop} [Decidable P] (h : P) : bz P = 1 := if_pos h
theorem bz_congr {P Q : Prop} [Decidable P] [Decidable Q] (h : P ↔ Q) : bz P = bz Q := by
  by_cases q : Q
  · rw [bz, bz, if_pos q, if_pos (h.mpr q)]
  · rw [bz, bz, if_neg q, if_neg (fun p => q (h.mp p))]
theorem bz_one {P : Prop} [Decidable P] (h : P ↔ True) : bz P = 1 := if_pos (h.mpr trivial)
theorem bz_zero {P : Prop} [Decidable P] (h : P ↔ False) : bz P = 0 := if_neg h.mp
theorem ow_bne_t {P : Prop} [Decidable P] (h : P) : ifCond.holds .ne (bz P) = true := by rw [if0, bz_t h]; decide
theorem ow_bne_f {P : Prop} [Decidable P] (h : ¬ P) : ifCond.holds .ne (bz P) = false := by rw [if0, bz, if_neg h]; decide
theorem ow_beq_t {P : Prop} [Decidable P] (h : ¬ P) : ifCond.holds .eq (bz P) = true := by rw [if0, bz, if_neg h]; decide
theorem ow_beq_f {P : Prop} [Decidable P] (h : P) : ifCond.holds .eq (bz P) = false := by rw [if0, bz_t h]; decide
theorem bz_f {P : Prop} [Decidable P] (h : ¬ P) : bz P = 0 := if_neg h
theorem ite_or_t {α : Type} {c d : Prop} [Decidable c] [Decidable d] {a y : α} (h : c) : (if c ∨ d then a else y) = a := if_pos (Or.inl h)
theorem ite_or_f {α : Type} {c d : Prop} [Decidable c] [Decidable d] {a y : α} (h : ¬ c) : (if c ∨ d then a else y) = (if d then a else y) := by
  by_cases q : d
  · rw [if_pos q, if_pos (Or.inr q)]
  · rw [if_neg q, if_neg (fun z => z.elim h q)]
theorem ite_and_t {α : Type} {c d : Prop} [Decidable c] [Decidable d] {a y : α} (h : c) : (if c ∧ d then a else y) = (if d then a else y) := by
  by_cases q : d
  · rw [if_pos q, if_pos ⟨h, q⟩]
  · rw [if_neg q, if_neg (fun z => q z.2)]
theorem ite_and_f {α : Type} {c d : Prop} [Decidable c] [Decidable d] {a y : α} (h : ¬ c) : (if c ∧ d then a else y) = y := if_neg fun q => h q.1
theorem ow_fin {P : Prop} [Decidable P] (h : P) : some (Value.int (nar .boolean (bz P))) = some (Value.int (1 : Int32)) := by rw [bz_t h]; rfl
theorem ow_fin' {P : Prop} [Decidable P] (h : P) : some (Value.int (bz P)) = some (Value.int (1 : Int32)) := by rw [bz_t h]
end Jvm.Own
namespace Jvm.Own
open Jvm Jvm.RoadKit
/-! ## Longs and ints as natural numbers -/
def nj (x : Int64) : Nat := x.toBitVec.toNat
def ni (x : Int32) : Nat := x.toBitVec.toNat
theorem nj_lt (x : Int64) : nj x < 18446744073709551616 := x.toBitVec.isLt
theorem ni_lt (x : Int32) : ni x < 4294967296 := x.toBitVec.isLt
theorem nj_inj {x y : Int64} (h : nj x = nj y) : x = y := Int64.toBitVec_inj.mp (BitVec.eq_of_toNat_eq h)
theorem ni_inj {x y : Int32} (h : ni x = ni y) : x = y := Int32.toBitVec_inj.mp (BitVec.eq_of_toNat_eq h)
theorem nj_int (x : Int64) : x.toInt = if nj x < 9223372036854775808 then (nj x : Int) else (nj x : Int) - 18446744073709551616 := by
  show x.toBitVec.toInt = _
  rw [BitVec.toInt_eq_toNat_cond]
  show (if 2 * nj x < 2 ^ 64 then (nj x : Int) else (nj x : Int) - (2 ^ 64 : Nat)) = _
  split <;> split <;> omega
theorem ni_int (x : Int32) : x.toInt = if ni x < 2147483648 then (ni x : Int) else (ni x : Int) - 4294967296 := by
  show x.toBitVec.toInt = _
  rw [BitVec.toInt_eq_toNat_cond]
  show (if 2 * ni x < 2 ^ 32 then (ni x : Int) else (ni x : Int) - (2 ^ 32 : Nat)) = _
  split <;> split <;> omega
theorem nj_and (x y : Int64) : nj (x &&& y) = nj x &&& nj y := by show (x.toBitVec &&& y.toBitVec).toNat = _; rw [BitVec.toNat_and]; rfl
theorem nj_or (x y : Int64) : nj (x ||| y) = nj x ||| nj y := by show (x.toBitVec ||| y.toBitVec).toNat = _; rw [BitVec.toNat_or]; rfl
theorem nj_xor (x y : Int64) : nj (x ^^^ y) = nj x ^^^ nj y := by show (x.toBitVec ^^^ y.toBitVec).toNat = _; rw [BitVec.toNat_xor]; rfl
theorem nj_add (x y : Int64) : nj (x + y) = (nj x + nj y) % 18446744073709551616 := by show (x.toBitVec + y.toBitVec).toNat = _; rw [BitVec.toNat_add]; rfl
theorem nj_sub (x y : Int64) : nj (x - y) = (18446744073709551616 - nj y + nj x) % 18446744073709551616 := by show (x.toBitVec - y.toBitVec).toNat = _; rw [BitVec.toNat_sub]; rfl
theorem ni_and (x y : Int32) : ni (x &&& y) = ni x &&& ni y := by show (x.toBitVec &&& y.toBitVec).toNat = _; rw [BitVec.toNat_and]; rfl
theorem nj_lushr (x : Int64) (q : Int32) (k : Nat) (hk : ni q % 64 = k) : nj (lushr x q) = nj x / 2 ^ k := by
  show (x.toBitVec >>> ((q &&& 0x3f).toInt64.toBitVec % 64)).toNat = x.toBitVec.toNat / 2 ^ k
  have h5 := (sm64 q k hk).2
  rw [BitVec.ushiftRight_eq', BitVec.toNat_ushiftRight, Nat.shiftRight_eq_div_pow, BitVec.toNat_umod, (sm64 q k hk).1, BitVec.toNat_ofNat]; congr 2; show k % 2 ^ 64 % 64 = k; omega
theorem nj_lshl (x : Int64) (q : Int32) (k : Nat) (hk : ni q % 64 = k) : nj (lshl x q) = nj x * 2 ^ k % 18446744073709551616 := by
  show (x.toBitVec <<< ((q &&& 0x3f).toInt64.toBitVec.smod 64)).toNat = _
  rw [BitVec.shiftLeft_eq', (sm64 q k hk).1, smod64 k (sm64 q k hk).2, BitVec.toNat_shiftLeft, Nat.shiftLeft_eq]; rfl
theorem ni_l2i (x : Int64) : ni x.toInt32 = nj x % 4294967296 := by
  show (x.toBitVec.signExtend 32).toNat = _
  rw [BitVec.signExtend_eq_setWidth_of_le _ (by decide), BitVec.toNat_setWidth]; rfl
theorem nj_i2l (x : Int32) (h : ni x < 2147483648) : nj x.toInt64 = ni x := by
  have e := nj_int x.toInt64
  rw [Int32.toInt_toInt64, ni_int, if_pos h] at e
  have := nj_lt x.toInt64
  split at e <;> omega
theorem mask_n (x k : Nat) : x &&& (2 ^ k - 1) = x % 2 ^ k := Nat.and_two_pow_sub_one_eq_mod x k
theorem lt64 {x y : Int64} : x < y ↔ x.toInt < y.toInt := Int64.lt_iff_toInt_lt
theorem lt32 {x y : Int32} : x < y ↔ x.toInt < y.toInt := Int32.lt_iff_toInt_lt
/-- the byte at place k of a long, as javac reads it into an int -/
theorem byteI (w : Int64) (q : Int32) (k : Nat) (hk : ni q % 64 = k) : ((lushr w q).toInt32 &&& (255 : Int32)) = Int32.ofNat (nj w / 2 ^ k % 256) := by
  apply ni_inj
  rw [ni_and, ni_l2i, nj_lushr w q k hk, show ni (255 : Int32) = 2 ^ 8 - 1 from rfl, mask_n]
  show _ = (BitVec.ofNat 32 _).toNat
  rw [BitVec.toNat_ofNat]
  omega
theorem byteJ (w : Int64) (q : Int32) (k : Nat) (hk : ni q % 64 = k) : ((lushr w q) &&& (255 : Int64)) = Int64.ofNat (nj w / 2 ^ k % 256) := by
  apply nj_inj
  rw [nj_and, nj_lushr w q k hk, show nj (255 : Int64) = 2 ^ 8 - 1 from rfl, mask_n]
  show _ = (BitVec.ofNat 64 _).toNat
  rw [BitVec.toNat_ofNat]
  omega
theorem all8 {P : Int8 → Prop} (h : ∀ n : Fin 256, P (Int8.ofNat n.1)) (y : Int8) : P y := by
  have q := h ⟨y.toBitVec.toNat, y.toBitVec.isLt⟩
  have e : Int8.ofNat y.toBitVec.toNat = y := by
    apply Int8.toBitVec_inj.mp
    show BitVec.ofNat 8 y.toBitVec.toNat = y.toBitVec
    rw [BitVec.ofNat_toNat]; simp
  rw [e] at q; exact q
/-- an int told by its natural number -/
theorem ofni (x : Int32) : Int32.ofNat (ni x) = x := by
  apply ni_inj
  show (BitVec.ofNat 32 x.toBitVec.toNat).toNat = x.toBitVec.toNat
  rw [BitVec.toNat_ofNat, Nat.mod_eq_of_lt x.toBitVec.isLt]
/-- (x & 0x7fffffff) % m for a small m -/
theorem remN (x : Int32) (m : Int32) (k : Nat) (hm : ni m = k) (h0 : 0 < k) (h1 : k < 2147483648) : ∃ n : Nat, n < k ∧ ((x &&& (2147483647 : Int32)) % m) = Int32.ofNat n := by
  have e1 : ni (x &&& (2147483647 : Int32)) = ni x % 2147483648 := by rw [ni_and, show ni (2147483647 : Int32) = 2 ^ 31 - 1 from rfl, mask_n]
  have m1 : m.toInt = k := by rw [ni_int, if_pos (by omega), hm]
  have a1 : (x &&& (2147483647 : Int32)).toInt = (ni x % 2147483648 : Nat) := by rw [ni_int, if_pos (by omega), e1]
  obtain ⟨p, -⟩ := c_irem (x &&& (2147483647 : Int32)) m k m1
  have r := p (by omega)
  refine ⟨ni x % 2147483648 % k, Nat.mod_lt _ h0, ?_⟩
  have q : ni x % 2147483648 % k < k := Nat.mod_lt _ h0
  apply Int32.toInt_inj.mp
  rw [r, a1, Int32.toInt_ofNat_of_lt (by omega)]; rfl
end Jvm.Own
namespace Jvm.Pilot.@@N@@
open Jvm Jvm.ClassFile Sem Op Lib Jvm.Free Jvm.Stand Jvm.LawKit Jvm.RoadKit Bundle Jvm.Own Jvm.Pilot.@@N@@.Jvm.D
theorem d2_0 : decode method_2_code 0 = .ok (.lload_n 0, 1) := by decide +kernel
theorem d2_1 : decode method_2_code 1 = .ok (.bipush 8, 2) := by decide +kernel
theorem d2_3 : decode method_2_code 3 = .ok (.iload_n 2, 1) := by decide +kernel
theorem d2_4 : decode method_2_code 4 = .ok (.imul, 1) := by decide +kernel
theorem d2_5 : decode method_2_code 5 = .ok (.lushr, 1) := by decide +kernel
theorem d2_6 : decode method_2_code 6 = .ok (.ldc2_w 7, 3) := by decide +kernel
theorem d2_9 : decode method_2_code 9 = .ok (.land, 1) := by decide +kernel
theorem d2_10 : decode method_2_code 10 = .ok (.lreturn, 1) := by decide +kernel
theorem pn_com_example_tidemark_tidemark_input_WordsAllDigitsPinLaw : plainName "com/example/tidemark/tidemark/input/WordsAllDigitsPinLaw" = true := by first | (simp [plainName, overriddenIn]; done) | decide +kernel
theorem ef_2 (m : MethodId) (x0 : Int64) (x1 : Int32) : entryFrame m #[(.long x0), (.int x1)] 3 = mkF m 0 #[.val (.long x0), .second, .val (.int x1)] [] := by first | (simp [entryFrame, mkF, argsToLocals, Value.category]; done) | rfl
def F2 (wx : Int64) (ix : Int32) : Int64 :=
  ((lushr wx ((8 : Int32) * ix)) &&& (255 : Int64))
def Q2 (Z : State) (wx : Int64) (ix : Int32) (n0 : Nat) (Rst : RL) (v : Option Value) (h : Heap) (L : List Loc) : Prop := v = some (.long (F2 wx ix)) ∧ Fr n0 L ∧ Rep Z n0 h (Rst)
set_option maxRecDepth 65536 in
set_option maxHeartbeats 40000000 in
theorem rm2 (l : Launch) (Z : State) (a0 : Array Value) (hw : ∀ d ∈ tables_1, d.before a0 Z = true) (ws : List Jvm.Cond) (wx : Int64) (ix : Int32) (h0 : Heap) (n0 : Nat) (Rst : RL) (R0 : Rep Z n0 h0 (Rst)) :
    MetFree l (⟨"com/example/tidemark/tidemark/input/WordsAllDigitsPinLaw", "byteAt", "(JI)J"⟩ : MethodName) (head1 (Jvm.Cond.code (⟨"com/example/tidemark/tidemark/input/WordsAllDigitsPinLaw", "byteAt", "(JI)J"⟩ : MethodName) method_2_code 3 (some .long) :: ws) ({ frames := 0, cells := 0, slots := 0, locals := 0 } : Room)) (fun a U => a = #[(.long wx), (.int ix)] ∧ Z.Warmed39 U.vm ∧ U.heap = h0) (fun _ _ _ _ _ => True) (fun _ U o U' => ∃ v L, o = .returned v ∧ Q2 Z wx ix n0 Rst v U'.heap L ∧ FrameEnd U o U' L ({ frames := 0, cells := 0, slots := 0, locals := 0 } : Room).cells ({ frames := 0, cells := 0, slots := 0, locals := 0 } : Room).slots) := by
  refine MetFree.of_bodySF (plainFor_of_name pn_com_example_tidemark_tidemark_input_WordsAllDigitsPinLaw) hisR ?_
  intro p e s m args below meth c s₁ Bd hml0 hP hK
  obtain ⟨rfl, hZ, hh⟩ := hP
  have hx := Bd.exec
  have hby := Bd.bytes
  have hml : c.maxLocals = 3 := hml0
  have hown : s.vm.findClass "com/example/tidemark/tidemark/input/WordsAllDigitsPinLaw" = some m.cls := findClass_of_methodNamed Bd.named
  have hnm := (name_of_methodNamed Bd.named Bd.method).1
  have X0 : Stand p l e ({ frames := 0, cells := 0, slots := 0, locals := 0 } : Room) s m #[(.long wx), (.int ix)] below meth c s₁ [] 0 0 := Stand.of_body Bd
  have e0 : s₁.heap = h0 := by rw [← hh, Bd.state]; rfl
  have N0 := Fr.nil n0
  have pre0 : ∀ t, Steps p.tables e below (s₁.setTop (mkF m 0 #[.val (.long wx), .second, .val (.int ix)] [])) t → Steps p.tables e below (s₁.setTop (entryFrame m #[(.long wx), (.int ix)] 3)) t := fun t k => castTop (ef_2 m wx ix) k
  have pre1 : ∀ t, Steps p.tables e below (s₁.setTop (mkF m 10 #[.val (.long wx), .second, .val (.int ix)] [(.long ((lushr wx ((8 : Int32) * ix)) &&& (255 : Int64)))])) t → Steps p.tables e below (s₁.setTop (entryFrame m #[(.long wx), (.int ix)] 3)) t := fun t k => pre0 t (by
    show Steps p.tables e below (s₁.setTop (mkF m 0 #[.val (.long wx), .second, .val (.int ix)] [])) _
    refine XS.lloadN X0.here hx rfl (hb hby d2_0) rfl ?_
    refine XS.bipush X0.here hx rfl (hb hby d2_1) ?_
    refine XS.iloadN X0.here hx rfl (hb hby d2_3) rfl ?_
    refine XS.imul X0.here hx rfl (hb hby d2_4) rfl ?_
    refine XS.lushr X0.here hx rfl (hb hby d2_5) rfl ?_
    refine X0.ldc2Long hx hown (mvT hZ (hw _ (List.mem_of_getElem? (i := 8) rfl))) (g := (mkF m 6 #[.val (.long wx), .second, .val (.int ix)] [(.long (lushr wx ((8 : Int32) * ix)))])) rfl (hb hby d2_6) _ ?_
    refine XS.land X0.here hx rfl (hb hby d2_9) rfl ?_
    exact k)
  obtain ⟨fs, hr, hrun, hended, hW, hsame⟩ := X0.leave (v := some (.long ((lushr wx ((8 : Int32) * ix)) &&& (255 : Int64)))) (fun h => by rw [Bd.returns] at h; cases h)
  refine ⟨_, _, pre1 _ ?_, hrun, hended, _, _, rfl, ?_, ⟨_, rfl⟩, hW, hsame.mono (by decide) (by decide)⟩
  · show Steps p.tables e below (s₁.setTop (mkF m 10 #[.val (.long wx), .second, .val (.int ix)] [(.long ((lushr wx ((8 : Int32) * ix)) &&& (255 : Int64)))])) _
    exact Jvm.Own.retL X0 hx Bd.returns (hb hby d2_10) hr
  · show Q2 Z wx ix n0 Rst _ s₁.heap _
    rw [e0]
    exact ⟨(by rfl), N0, R0⟩
theorem d1_0 : decode method_4_code 0 = .ok (.iload 4, 2) := by decide +kernel
theorem d1_2 : decode method_4_code 2 = .ok (.iload 5, 2) := by decide +kernel
theorem d1_4 : decode method_4_code 4 = .ok (.iushr, 1) := by decide +kernel
theorem d1_5 : decode method_4_code 5 = .ok (.iconst 1, 1) := by decide +kernel
theorem d1_6 : decode method_4_code 6 = .ok (.iand, 1) := by decide +kernel
theorem d1_7 : decode method_4_code 7 = .ok (.ifCond .eq 14, 3) := by decide +kernel
theorem d1_21 : decode method_4_code 21 = .ok (.ldc2_w 9, 3) := by decide +kernel
theorem d1_24 : decode method_4_code 24 = .ok (.lload_n 2, 1) := by decide +kernel
theorem d1_25 : decode method_4_code 25 = .ok (.iload 5, 2) := by decide +kernel
theorem d1_27 : decode method_4_code 27 = .ok (.invokestatic 13, 3) := by decide +kernel
theorem pd__28JI_29J : parseMethodDescriptor "(JI)J" = some ⟨[.long, .int], some .long⟩ := by decide +kernel
theorem d1_30 : decode method_4_code 30 = .ok (.ldc2_w 19, 3) := by decide +kernel
theorem d1_33 : decode method_4_code 33 = .ok (.lrem, 1) := by decide +kernel
theorem d1_34 : decode method_4_code 34 = .ok (.ladd, 1) := by decide +kernel
theorem d1_35 : decode method_4_code 35 = .ok (.lstore 6, 2) := by decide +kernel
theorem d1_37 : decode method_4_code 37 = .ok (.lload 6, 2) := by decide +kernel
theorem d1_39 : decode method_4_code 39 = .ok (.bipush 8, 2) := by decide +kernel
theorem d1_41 : decode method_4_code 41 = .ok (.iload 5, 2) := by decide +kernel
theorem d1_43 : decode method_4_code 43 = .ok (.imul, 1) := by decide +kernel
theorem d1_44 : decode method_4_code 44 = .ok (.lshl, 1) := by decide +kernel
theorem d1_45 : decode method_4_code 45 = .ok (.lreturn, 1) := by decide +kernel
theorem d1_10 : decode method_4_code 10 = .ok (.lload_n 0, 1) := by decide +kernel
theorem d1_11 : decode method_4_code 11 = .ok (.iload 5, 2) := by decide +kernel
theorem d1_13 : decode method_4_code 13 = .ok (.invokestatic 13, 3) := by decide +kernel
theorem d1_16 : decode method_4_code 16 = .ok (.lstore 6, 2) := by decide +kernel
theorem d1_18 : decode method_4_code 18 = .ok (.goto 19, 3) := by decide +kernel
theorem ef_1 (m : MethodId) (x0 : Int64) (x1 : Int64) (x2 : Int32) (x3 : Int32) : entryFrame m #[(.long x0), (.long x1), (.int x2), (.int x3)] 8 = mkF m 0 #[.val (.long x0), .second, .val (.long x1), .second, .val (.int x2), .val (.int x3), .unset, .unset] [] := by first | (simp [entryFrame, mkF, argsToLocals, Value.category]; done) | rfl
def F1 (rx : Int64) (dx : Int64) (sx : Int32) (ix : Int32) : Int64 :=
  if ((iushr sx ix) &&& (1 : Int32)) = (0 : Int32) then
    (lshl ((48 : Int64) + ((F2 dx ix) % (10 : Int64))) ((8 : Int32) * ix))
  else
    (lshl (F2 rx ix) ((8 : Int32) * ix))
def Q1 (Z : State) (rx : Int64) (dx : Int64) (sx : Int32) (ix : Int32) (n0 : Nat) (Rst : RL) (v : Option Value) (h : Heap) (L : List Loc) : Prop := v = some (.long (F1 rx dx sx ix)) ∧ Fr n0 L ∧ Rep Z n0 h (Rst)
set_option maxRecDepth 65536 in
set_option maxHeartbeats 40000000 in
theorem rm1 (l : Launch) (Z : State) (a0 : Array Value) (hw : ∀ d ∈ tables_1, d.before a0 Z = true) (ws : List Jvm.Cond) (rx : Int64) (dx : Int64) (sx : Int32) (ix : Int32) (h0 : Heap) (n0 : Nat) (Rst : RL) (R0 : Rep Z n0 h0 (Rst)) :
    MetFree l (⟨"com/example/tidemark/tidemark/input/WordsAllDigitsPinLaw", "pick", "(JJII)J"⟩ : MethodName) (head1 (Jvm.Cond.code (⟨"com/example/tidemark/tidemark/input/WordsAllDigitsPinLaw", "pick", "(JJII)J"⟩ : MethodName) method_4_code 8 (some .long) :: ws) ({ frames := 1, cells := 0, slots := 0, locals := 16 } : Room)) (fun a U => a = #[(.long rx), (.long dx), (.int sx), (.int ix)] ∧ Z.Warmed39 U.vm ∧ U.heap = h0) (fun _ _ _ _ _ => True) (fun _ U o U' => ∃ v L, o = .returned v ∧ Q1 Z rx dx sx ix n0 Rst v U'.heap L ∧ FrameEnd U o U' L ({ frames := 1, cells := 0, slots := 0, locals := 16 } : Room).cells ({ frames := 1, cells := 0, slots := 0, locals := 16 } : Room).slots) := by
  refine MetFree.of_bodySF (plainFor_of_name pn_com_example_tidemark_tidemark_input_WordsAllDigitsPinLaw) hisR ?_
  intro p e s m args below meth c s₁ Bd hml0 hP hK
  obtain ⟨rfl, hZ, hh⟩ := hP
  have hx := Bd.exec
  have hby := Bd.bytes
  have hml : c.maxLocals = 8 := hml0
  have hown : s.vm.findClass "com/example/tidemark/tidemark/input/WordsAllDigitsPinLaw" = some m.cls := findClass_of_methodNamed Bd.named
  have hnm := (name_of_methodNamed Bd.named Bd.method).1
  have X0 : Stand p l e ({ frames := 1, cells := 0, slots := 0, locals := 16 } : Room) s m #[(.long rx), (.long dx), (.int sx), (.int ix)] below meth c s₁ [] 0 0 := Stand.of_body Bd
  have e0 : s₁.heap = h0 := by rw [← hh, Bd.state]; rfl
  have N0 := Fr.nil n0
  have pre0 : ∀ t, Steps p.tables e below (s₁.setTop (mkF m 0 #[.val (.long rx), .second, .val (.long dx), .second, .val (.int sx), .val (.int ix), .unset, .unset] [])) t → Steps p.tables e below (s₁.setTop (entryFrame m #[(.long rx), (.long dx), (.int sx), (.int ix)] 8)) t := fun t k => castTop (ef_1 m rx dx sx ix) k
  have pre2 : ∀ t, Steps p.tables e below (s₁.setTop (mkF m 7 #[.val (.long rx), .second, .val (.long dx), .second, .val (.int sx), .val (.int ix), .unset, .unset] [(.int ((iushr sx ix) &&& (1 : Int32)))])) t → Steps p.tables e below (s₁.setTop (entryFrame m #[(.long rx), (.long dx), (.int sx), (.int ix)] 8)) t := fun t k => pre0 t (by
    show Steps p.tables e below (s₁.setTop (mkF m 0 #[.val (.long rx), .second, .val (.long dx), .second, .val (.int sx), .val (.int ix), .unset, .unset] [])) _
    refine XS.iload X0.here hx rfl (hb hby d1_0) rfl ?_
    refine XS.iload X0.here hx rfl (hb hby d1_2) rfl ?_
    refine XS.iushr X0.here hx rfl (hb hby d1_4) rfl ?_
    refine XS.iconst X0.here hx rfl (hb hby d1_5) ?_
    refine XS.iand X0.here hx rfl (hb hby d1_6) rfl ?_
    exact k)
  by_cases hb4 : ((iushr sx ix) &&& (1 : Int32)) = (0 : Int32)
  · have pre5 : ∀ t, Steps p.tables e below (s₁.setTop (mkF m 21 #[.val (.long rx), .second, .val (.long dx), .second, .val (.int sx), .val (.int ix), .unset, .unset] [])) t → Steps p.tables e below (s₁.setTop (entryFrame m #[(.long rx), (.long dx), (.int sx), (.int ix)] 8)) t := fun t k => pre2 t (by show Steps p.tables e below (s₁.setTop (mkF m 7 #[.val (.long rx), .second, .val (.long dx), .second, .val (.int sx), .val (.int ix), .unset, .unset] [(.int ((iushr sx ix) &&& (1 : Int32)))])) _; refine XS.ifYes X0.here hx rfl (pc0 := 7) (pc' := 21) rfl (hb hby d1_7) rfl ((if0 _ _).trans (teq hb4).1) (by decide) (by decide) ?_; exact k)
    have pre6 : ∀ t, Steps p.tables e below (s₁.setTop (mkF m 27 #[.val (.long rx), .second, .val (.long dx), .second, .val (.int sx), .val (.int ix), .unset, .unset] [(.int ix), (.long dx), (.long (48 : Int64))])) t → Steps p.tables e below (s₁.setTop (entryFrame m #[(.long rx), (.long dx), (.int sx), (.int ix)] 8)) t := fun t k => pre5 t (by
      show Steps p.tables e below (s₁.setTop (mkF m 21 #[.val (.long rx), .second, .val (.long dx), .second, .val (.int sx), .val (.int ix), .unset, .unset] [])) _
      refine X0.ldc2Long hx hown (mvT hZ (hw _ (List.mem_of_getElem? (i := 4) rfl))) (g := (mkF m 21 #[.val (.long rx), .second, .val (.long dx), .second, .val (.int sx), .val (.int ix), .unset, .unset] [])) rfl (hb hby d1_21) _ ?_
      refine XS.lloadN X0.here hx rfl (hb hby d1_24) rfl ?_
      refine XS.iload X0.here hx rfl (hb hby d1_25) rfl ?_
      exact k)
    obtain ⟨_, _, ⟨T7, L7, k7, n7⟩, -, X7, ⟨Lc7, hQ7, l7, y7, z7⟩, st7⟩ := Jvm.LawKit.callS X0 hx (y := (⟨"com/example/tidemark/tidemark/input/WordsAllDigitsPinLaw", "byteAt", "(JI)J"⟩ : MethodName)) hown (mvT hZ (hw _ (List.mem_of_getElem? (i := 5) rfl))) (mvT hZ (hw _ (List.mem_of_getElem? (i := 6) rfl))) (mvT hZ (hw _ (List.mem_of_getElem? (i := 2) rfl))) (mvT hZ (hw _ (List.mem_of_getElem? (i := 7) rfl))) (by decide) (backOf (W := 2) (rm2 l Z a0 hw [] dx ix  h0 n0 _ R0 ) hZ (hw _ (List.mem_of_getElem? (i := 7) rfl)) (hw _ (List.mem_of_getElem? (i := 2) rfl)) (by decide) (by decide)) (g := (mkF m 27 #[.val (.long rx), .second, .val (.long dx), .second, .val (.int sx), .val (.int ix), .unset, .unset] [(.int ix), (.long dx), (.long (48 : Int64))])) rfl (by rw [hml]; rfl) (argsL := [(.long dx), (.int ix)]) (rest := [(.long (48 : Int64))]) (lenOf pd__28JI_29J rfl) rfl (by show 2 * 0 + _ ≤ _; exact Nat.le_of_eq rfl) (hb hby d1_27) (fun _ _ => ⟨rfl, e0, (by decide : 0 + 0 ≤ _), (by decide : 0 + 0 ≤ _)⟩)
    dsimp only [Pt.U, Pt.locs, Pt.cells, Pt.slots] at X7 l7 y7 z7 st7 hQ7
    subst y7 z7
    obtain ⟨rfl, N7q, R7⟩ := hQ7
    have N7 : Fr n0 L7 := by rw [l7]; exact Fr.app N0 N7q
    replace R7 : Rep Z n0 T7.heap (Rst) := R7
    have pre8 : ∀ t, Steps p.tables e below (T7.setTop (mkF m 30 #[.val (.long rx), .second, .val (.long dx), .second, .val (.int sx), .val (.int ix), .unset, .unset] [(.long (F2 dx ix)), (.long (48 : Int64))])) t → Steps p.tables e below (s₁.setTop (entryFrame m #[(.long rx), (.long dx), (.int sx), (.int ix)] 8)) t := fun t k => pre6 t (st7 t k)
    have pre9 : ∀ t, Steps p.tables e below (T7.setTop (mkF m 45 #[.val (.long rx), .second, .val (.long dx), .second, .val (.int sx), .val (.int ix), .val (.long ((48 : Int64) + ((F2 dx ix) % (10 : Int64)))), .second] [(.long (lshl ((48 : Int64) + ((F2 dx ix) % (10 : Int64))) ((8 : Int32) * ix)))])) t → Steps p.tables e below (s₁.setTop (entryFrame m #[(.long rx), (.long dx), (.int sx), (.int ix)] 8)) t := fun t k => pre8 t (by
      show Steps p.tables e below (T7.setTop (mkF m 30 #[.val (.long rx), .second, .val (.long dx), .second, .val (.int sx), .val (.int ix), .unset, .unset] [(.long (F2 dx ix)), (.long (48 : Int64))])) _
      refine X7.ldc2Long hx hown (mvT hZ (hw _ (List.mem_of_getElem? (i := 9) rfl))) (g := (mkF m 30 #[.val (.long rx), .second, .val (.long dx), .second, .val (.int sx), .val (.int ix), .unset, .unset] [(.long (F2 dx ix)), (.long (48 : Int64))])) rfl (hb hby d1_30) _ ?_
      refine XS.lrem X7.here hx rfl (hb hby d1_33) rfl (by decide) ?_
      rw [lrem_mod]
      show Steps p.tables e below (T7.setTop (mkF m 34 #[.val (.long rx), .second, .val (.long dx), .second, .val (.int sx), .val (.int ix), .unset, .unset] [(.long ((F2 dx ix) % (10 : Int64))), (.long (48 : Int64))])) _
      refine XS.ladd X7.here hx rfl (hb hby d1_34) rfl ?_
      refine XS.lstore X7.here hx rfl (hb hby d1_35) rfl (l' := #[.val (.long rx), .second, .val (.long dx), .second, .val (.int sx), .val (.int ix), .val (.long ((48 : Int64) + ((F2 dx ix) % (10 : Int64)))), .second]) rfl ?_
      refine XS.lload X7.here hx rfl (hb hby d1_37) rfl ?_
      refine XS.bipush X7.here hx rfl (hb hby d1_39) ?_
      refine XS.iload X7.here hx rfl (hb hby d1_41) rfl ?_
      refine XS.imul X7.here hx rfl (hb hby d1_43) rfl ?_
      refine XS.lshl X7.here hx rfl (hb hby d1_44) rfl ?_
      exact k)
    obtain ⟨fs, hr, hrun, hended, hW, hsame⟩ := X7.leave (v := some (.long (lshl ((48 : Int64) + ((F2 dx ix) % (10 : Int64))) ((8 : Int32) * ix)))) (fun h => by rw [Bd.returns] at h; cases h)
    refine ⟨_, _, pre9 _ ?_, hrun, hended, _, _, rfl, ?_, ⟨_, rfl⟩, hW, hsame.mono (by decide) (by decide)⟩
    · show Steps p.tables e below (T7.setTop (mkF m 45 #[.val (.long rx), .second, .val (.long dx), .second, .val (.int sx), .val (.int ix), .val (.long ((48 : Int64) + ((F2 dx ix) % (10 : Int64)))), .second] [(.long (lshl ((48 : Int64) + ((F2 dx ix) % (10 : Int64))) ((8 : Int32) * ix)))])) _
      exact Jvm.Own.retL X7 hx Bd.returns (hb hby d1_45) hr
    · show Q1 Z rx dx sx ix n0 Rst _ T7.heap _
      exact ⟨(by simp only [F1, if_pos hb4]), N7, R7⟩
  · have pre10 : ∀ t, Steps p.tables e below (s₁.setTop (mkF m 10 #[.val (.long rx), .second, .val (.long dx), .second, .val (.int sx), .val (.int ix), .unset, .unset] [])) t → Steps p.tables e below (s₁.setTop (entryFrame m #[(.long rx), (.long dx), (.int sx), (.int ix)] 8)) t := fun t k => pre2 t (by show Steps p.tables e below (s₁.setTop (mkF m 7 #[.val (.long rx), .second, .val (.long dx), .second, .val (.int sx), .val (.int ix), .unset, .unset] [(.int ((iushr sx ix) &&& (1 : Int32)))])) _; refine XS.ifNo X0.here hx rfl (hb hby d1_7) rfl ((if0 _ _).trans (feq hb4).1) ?_; exact k)
    have pre11 : ∀ t, Steps p.tables e below (s₁.setTop (mkF m 13 #[.val (.long rx), .second, .val (.long dx), .second, .val (.int sx), .val (.int ix), .unset, .unset] [(.int ix), (.long rx)])) t → Steps p.tables e below (s₁.setTop (entryFrame m #[(.long rx), (.long dx), (.int sx), (.int ix)] 8)) t := fun t k => pre10 t (by
      show Steps p.tables e below (s₁.setTop (mkF m 10 #[.val (.long rx), .second, .val (.long dx), .second, .val (.int sx), .val (.int ix), .unset, .unset] [])) _
      refine XS.lloadN X0.here hx rfl (hb hby d1_10) rfl ?_
      refine XS.iload X0.here hx rfl (hb hby d1_11) rfl ?_
      exact k)
    obtain ⟨_, _, ⟨T12, L12, k12, n12⟩, -, X12, ⟨Lc12, hQ12, l12, y12, z12⟩, st12⟩ := Jvm.LawKit.callS X0 hx (y := (⟨"com/example/tidemark/tidemark/input/WordsAllDigitsPinLaw", "byteAt", "(JI)J"⟩ : MethodName)) hown (mvT hZ (hw _ (List.mem_of_getElem? (i := 5) rfl))) (mvT hZ (hw _ (List.mem_of_getElem? (i := 6) rfl))) (mvT hZ (hw _ (List.mem_of_getElem? (i := 2) rfl))) (mvT hZ (hw _ (List.mem_of_getElem? (i := 7) rfl))) (by decide) (backOf (W := 0) (rm2 l Z a0 hw [] rx ix  h0 n0 _ R0 ) hZ (hw _ (List.mem_of_getElem? (i := 7) rfl)) (hw _ (List.mem_of_getElem? (i := 2) rfl)) (by decide) (by decide)) (g := (mkF m 13 #[.val (.long rx), .second, .val (.long dx), .second, .val (.int sx), .val (.int ix), .unset, .unset] [(.int ix), (.long rx)])) rfl (by rw [hml]; rfl) (argsL := [(.long rx), (.int ix)]) (rest := []) (lenOf pd__28JI_29J rfl) rfl (by show 2 * 0 + _ ≤ _; exact Nat.le_of_eq rfl) (hb hby d1_13) (fun _ _ => ⟨rfl, e0, (by decide : 0 + 0 ≤ _), (by decide : 0 + 0 ≤ _)⟩)
    dsimp only [Pt.U, Pt.locs, Pt.cells, Pt.slots] at X12 l12 y12 z12 st12 hQ12
    subst y12 z12
    obtain ⟨rfl, N12q, R12⟩ := hQ12
    have N12 : Fr n0 L12 := by rw [l12]; exact Fr.app N0 N12q
    replace R12 : Rep Z n0 T12.heap (Rst) := R12
    have pre13 : ∀ t, Steps p.tables e below (T12.setTop (mkF m 16 #[.val (.long rx), .second, .val (.long dx), .second, .val (.int sx), .val (.int ix), .unset, .unset] [(.long (F2 rx ix))])) t → Steps p.tables e below (s₁.setTop (entryFrame m #[(.long rx), (.long dx), (.int sx), (.int ix)] 8)) t := fun t k => pre11 t (st12 t k)
    have pre14 : ∀ t, Steps p.tables e below (T12.setTop (mkF m 45 #[.val (.long rx), .second, .val (.long dx), .second, .val (.int sx), .val (.int ix), .val (.long (F2 rx ix)), .second] [(.long (lshl (F2 rx ix) ((8 : Int32) * ix)))])) t → Steps p.tables e below (s₁.setTop (entryFrame m #[(.long rx), (.long dx), (.int sx), (.int ix)] 8)) t := fun t k => pre13 t (by
      show Steps p.tables e below (T12.setTop (mkF m 16 #[.val (.long rx), .second, .val (.long dx), .second, .val (.int sx), .val (.int ix), .unset, .unset] [(.long (F2 rx ix))])) _
      refine XS.lstore X12.here hx rfl (hb hby d1_16) rfl (l' := #[.val (.long rx), .second, .val (.long dx), .second, .val (.int sx), .val (.int ix), .val (.long (F2 rx ix)), .second]) rfl ?_
      refine XS.goto X12.here hx rfl (pc0 := 18) (pc' := 37) rfl (hb hby d1_18) (by decide) (by decide) ?_
      refine XS.lload X12.here hx rfl (hb hby d1_37) rfl ?_
      refine XS.bipush X12.here hx rfl (hb hby d1_39) ?_
      refine XS.iload X12.here hx rfl (hb hby d1_41) rfl ?_
      refine XS.imul X12.here hx rfl (hb hby d1_43) rfl ?_
      refine XS.lshl X12.here hx rfl (hb hby d1_44) rfl ?_
      exact k)
    obtain ⟨fs, hr, hrun, hended, hW, hsame⟩ := X12.leave (v := some (.long (lshl (F2 rx ix) ((8 : Int32) * ix)))) (fun h => by rw [Bd.returns] at h; cases h)
    refine ⟨_, _, pre14 _ ?_, hrun, hended, _, _, rfl, ?_, ⟨_, rfl⟩, hW, hsame.mono (by decide) (by decide)⟩
    · show Steps p.tables e below (T12.setTop (mkF m 45 #[.val (.long rx), .second, .val (.long dx), .second, .val (.int sx), .val (.int ix), .val (.long (F2 rx ix)), .second] [(.long (lshl (F2 rx ix) ((8 : Int32) * ix)))])) _
      exact Jvm.Own.retL X12 hx Bd.returns (hb hby d1_45) hr
    · show Q1 Z rx dx sx ix n0 Rst _ T12.heap _
      exact ⟨(by simp only [F1, if_neg hb4]), N12, R12⟩
theorem d3_0 : decode method_3_code 0 = .ok (.lload_n 0, 1) := by decide +kernel
theorem d3_1 : decode method_3_code 1 = .ok (.ldc2_w 9, 3) := by decide +kernel
theorem d3_4 : decode method_3_code 4 = .ok (.lcmp, 1) := by decide +kernel
theorem d3_5 : decode method_3_code 5 = .ok (.ifCond .lt 15, 3) := by decide +kernel
theorem d3_20 : decode method_3_code 20 = .ok (.iconst 0, 1) := by decide +kernel
theorem d3_8 : decode method_3_code 8 = .ok (.lload_n 0, 1) := by decide +kernel
theorem d3_9 : decode method_3_code 9 = .ok (.ldc2_w 11, 3) := by decide +kernel
theorem d3_12 : decode method_3_code 12 = .ok (.lcmp, 1) := by decide +kernel
theorem d3_13 : decode method_3_code 13 = .ok (.ifCond .gt 7, 3) := by decide +kernel
theorem d3_16 : decode method_3_code 16 = .ok (.iconst 1, 1) := by decide +kernel
theorem d3_17 : decode method_3_code 17 = .ok (.goto 4, 3) := by decide +kernel
theorem d3_21 : decode method_3_code 21 = .ok (.ireturn, 1) := by decide +kernel
theorem ef_3 (m : MethodId) (x0 : Int64) : entryFrame m #[(.long x0)] 2 = mkF m 0 #[.val (.long x0), .second] [] := by first | (simp [entryFrame, mkF, argsToLocals, Value.category]; done) | rfl
def F3 (cx : Int64) : Int32 :=
  (bz ((¬ (cx < (48 : Int64))) ∧ (¬ ((57 : Int64) < cx))))
def Q3 (Z : State) (cx : Int64) (n0 : Nat) (Rst : RL) (v : Option Value) (h : Heap) (L : List Loc) : Prop := v = some (.int (F3 cx)) ∧ Fr n0 L ∧ Rep Z n0 h (Rst)
set_option maxRecDepth 65536 in
set_option maxHeartbeats 40000000 in
theorem rm3 (l : Launch) (Z : State) (a0 : Array Value) (hw : ∀ d ∈ tables_1, d.before a0 Z = true) (ws : List Jvm.Cond) (cx : Int64) (h0 : Heap) (n0 : Nat) (Rst : RL) (R0 : Rep Z n0 h0 (Rst)) :
    MetFree l (⟨"com/example/tidemark/tidemark/input/WordsAllDigitsPinLaw", "isDigit", "(J)Z"⟩ : MethodName) (head1 (Jvm.Cond.code (⟨"com/example/tidemark/tidemark/input/WordsAllDigitsPinLaw", "isDigit", "(J)Z"⟩ : MethodName) method_3_code 2 (some .boolean) :: ws) ({ frames := 0, cells := 0, slots := 0, locals := 0 } : Room)) (fun a U => a = #[(.long cx)] ∧ Z.Warmed39 U.vm ∧ U.heap = h0) (fun _ _ _ _ _ => True) (fun _ U o U' => ∃ v L, o = .returned v ∧ Q3 Z cx n0 Rst v U'.heap L ∧ FrameEnd U o U' L ({ frames := 0, cells := 0, slots := 0, locals := 0 } : Room).cells ({ frames := 0, cells := 0, slots := 0, locals := 0 } : Room).slots) := by
  refine MetFree.of_bodySF (plainFor_of_name pn_com_example_tidemark_tidemark_input_WordsAllDigitsPinLaw) hisR ?_
  intro p e s m args below meth c s₁ Bd hml0 hP hK
  obtain ⟨rfl, hZ, hh⟩ := hP
  have hx := Bd.exec
  have hby := Bd.bytes
  have hml : c.maxLocals = 2 := hml0
  have hown : s.vm.findClass "com/example/tidemark/tidemark/input/WordsAllDigitsPinLaw" = some m.cls := findClass_of_methodNamed Bd.named
  have hnm := (name_of_methodNamed Bd.named Bd.method).1
  have X0 : Stand p l e ({ frames := 0, cells := 0, slots := 0, locals := 0 } : Room) s m #[(.long cx)] below meth c s₁ [] 0 0 := Stand.of_body Bd
  have e0 : s₁.heap = h0 := by rw [← hh, Bd.state]; rfl
  have N0 := Fr.nil n0
  have pre0 : ∀ t, Steps p.tables e below (s₁.setTop (mkF m 0 #[.val (.long cx), .second] [])) t → Steps p.tables e below (s₁.setTop (entryFrame m #[(.long cx)] 2)) t := fun t k => castTop (ef_3 m cx) k
  have pre5 : ∀ t, Steps p.tables e below (s₁.setTop (mkF m 5 #[.val (.long cx), .second] [(.int (XT.cmpL cx (48 : Int64)))])) t → Steps p.tables e below (s₁.setTop (entryFrame m #[(.long cx)] 2)) t := fun t k => pre0 t (by
    show Steps p.tables e below (s₁.setTop (mkF m 0 #[.val (.long cx), .second] [])) _
    refine XS.lloadN X0.here hx rfl (hb hby d3_0) rfl ?_
    refine X0.ldc2Long hx hown (mvT hZ (hw _ (List.mem_of_getElem? (i := 4) rfl))) (g := (mkF m 1 #[.val (.long cx), .second] [(.long cx)])) rfl (hb hby d3_1) _ ?_
    refine XS.lcmp X0.here hx rfl (hb hby d3_4) rfl ?_
    exact k)
  have tl3 : ∀ t, Steps p.tables e below (s₁.setTop (mkF m 21 #[.val (.long cx), .second] [(.int (bz (¬ ((57 : Int64) < cx))))])) t → Steps p.tables e below (s₁.setTop (mkF m 13 #[.val (.long cx), .second] [(.int (XT.cmpL cx (57 : Int64)))])) t := fun t k => by
    by_cases hb2 : (57 : Int64) < cx
    · refine XS.ifYes X0.here hx rfl (pc0 := 13) (pc' := 20) rfl (hb hby d3_13) rfl (XT.ll_gt_t hb2) (by decide) (by decide) ?_
      rw [bz_zero (P := (¬ ((57 : Int64) < cx))) (iff_false_intro (not_not_intro hb2))] at k
      show Steps p.tables e below (s₁.setTop (mkF m 20 #[.val (.long cx), .second] [])) _
      refine XS.iconst X0.here hx rfl (hb hby d3_20) ?_
      exact k
    · refine XS.ifNo X0.here hx rfl (hb hby d3_13) rfl (XT.ll_gt_f hb2) ?_
      rw [bz_one (P := (¬ ((57 : Int64) < cx))) (iff_true_intro hb2)] at k
      show Steps p.tables e below (s₁.setTop (mkF m 16 #[.val (.long cx), .second] [])) _
      refine XS.iconst X0.here hx rfl (hb hby d3_16) ?_
      refine XS.goto X0.here hx rfl (pc0 := 17) (pc' := 21) rfl (hb hby d3_17) (by decide) (by decide) ?_
      exact k
  have tl4 : ∀ t, Steps p.tables e below (s₁.setTop (mkF m 21 #[.val (.long cx), .second] [(.int (bz ((¬ (cx < (48 : Int64))) ∧ (¬ ((57 : Int64) < cx)))))])) t → Steps p.tables e below (s₁.setTop (mkF m 5 #[.val (.long cx), .second] [(.int (XT.cmpL cx (48 : Int64)))])) t := fun t k => by
    by_cases hb1 : cx < (48 : Int64)
    · refine XS.ifYes X0.here hx rfl (pc0 := 5) (pc' := 20) rfl (hb hby d3_5) rfl (XT.ll_lt_t hb1) (by decide) (by decide) ?_
      rw [bz_zero (P := ((¬ (cx < (48 : Int64))) ∧ (¬ ((57 : Int64) < cx)))) (iff_false_intro (fun q => q.1 hb1))] at k
      show Steps p.tables e below (s₁.setTop (mkF m 20 #[.val (.long cx), .second] [])) _
      refine XS.iconst X0.here hx rfl (hb hby d3_20) ?_
      exact k
    · refine XS.ifNo X0.here hx rfl (hb hby d3_5) rfl (XT.ll_lt_f hb1) ?_
      rw [bz_congr (P := ((¬ (cx < (48 : Int64))) ∧ (¬ ((57 : Int64) < cx)))) (Q := (¬ ((57 : Int64) < cx))) (and_iff_right hb1)] at k
      show Steps p.tables e below (s₁.setTop (mkF m 8 #[.val (.long cx), .second] [])) _
      refine XS.lloadN X0.here hx rfl (hb hby d3_8) rfl ?_
      refine X0.ldc2Long hx hown (mvT hZ (hw _ (List.mem_of_getElem? (i := 13) rfl))) (g := (mkF m 9 #[.val (.long cx), .second] [(.long cx)])) rfl (hb hby d3_9) _ ?_
      refine XS.lcmp X0.here hx rfl (hb hby d3_12) rfl ?_
      exact tl3 t k
  have pre6 : ∀ t, Steps p.tables e below (s₁.setTop (mkF m 21 #[.val (.long cx), .second] [(.int (bz ((¬ (cx < (48 : Int64))) ∧ (¬ ((57 : Int64) < cx)))))])) t → Steps p.tables e below (s₁.setTop (entryFrame m #[(.long cx)] 2)) t := fun t k => pre5 t (by
    exact tl4 t k)
  obtain ⟨fs, hr, hrun, hended, hW, hsame⟩ := X0.leave (v := some (.int (nar .boolean (bz ((¬ (cx < (48 : Int64))) ∧ (¬ ((57 : Int64) < cx))))))) (fun h => by rw [Bd.returns] at h; cases h)
  refine ⟨_, _, pre6 _ ?_, hrun, hended, _, _, rfl, ?_, ⟨_, rfl⟩, hW, hsame.mono (by decide) (by decide)⟩
  · show Steps p.tables e below (s₁.setTop (mkF m 21 #[.val (.long cx), .second] [(.int (bz ((¬ (cx < (48 : Int64))) ∧ (¬ ((57 : Int64) < cx)))))])) _
    exact retN X0 hx (t := .boolean) Bd.returns (by simp) (hb hby d3_21) hr
  · show Q3 Z cx n0 Rst _ s₁.heap _
    rw [e0]
    exact ⟨(by exact congrArg (fun z => some (Value.int z)) (by simp only [F3] <;> first | rfl | exact nar_b _ | decide)), N0, R0⟩
theorem d4_0 : decode prog_94_method_6_code 0 = .ok (.lload_n 0, 1) := by decide +kernel
theorem d4_1 : decode prog_94_method_6_code 1 = .ok (.ldc2_w 31, 3) := by decide +kernel
theorem d4_4 : decode prog_94_method_6_code 4 = .ok (.lsub, 1) := by decide +kernel
theorem d4_5 : decode prog_94_method_6_code 5 = .ok (.lload_n 0, 1) := by decide +kernel
theorem d4_6 : decode prog_94_method_6_code 6 = .ok (.ldc2_w 33, 3) := by decide +kernel
theorem d4_9 : decode prog_94_method_6_code 9 = .ok (.ladd, 1) := by decide +kernel
theorem d4_10 : decode prog_94_method_6_code 10 = .ok (.lor, 1) := by decide +kernel
theorem d4_11 : decode prog_94_method_6_code 11 = .ok (.ldc2_w 25, 3) := by decide +kernel
theorem d4_14 : decode prog_94_method_6_code 14 = .ok (.land, 1) := by decide +kernel
theorem d4_15 : decode prog_94_method_6_code 15 = .ok (.lconst 0, 1) := by decide +kernel
theorem d4_16 : decode prog_94_method_6_code 16 = .ok (.lcmp, 1) := by decide +kernel
theorem d4_17 : decode prog_94_method_6_code 17 = .ok (.ifCond .ne 7, 3) := by decide +kernel
theorem d4_20 : decode prog_94_method_6_code 20 = .ok (.iconst 1, 1) := by decide +kernel
theorem d4_21 : decode prog_94_method_6_code 21 = .ok (.goto 4, 3) := by decide +kernel
theorem d4_24 : decode prog_94_method_6_code 24 = .ok (.iconst 0, 1) := by decide +kernel
theorem d4_25 : decode prog_94_method_6_code 25 = .ok (.ireturn, 1) := by decide +kernel
theorem pn_com_example_tidemark_tidemark_input_Words : plainName "com/example/tidemark/tidemark/input/Words" = true := by first | (simp [plainName, overriddenIn]; done) | decide +kernel
theorem ef_4 (m : MethodId) (x0 : Int64) : entryFrame m #[(.long x0)] 2 = mkF m 0 #[.val (.long x0), .second] [] := by first | (simp [entryFrame, mkF, argsToLocals, Value.category]; done) | rfl
def F4 (wx : Int64) : Int32 :=
  (bz ((((wx - (3472328296227680304 : Int64)) ||| (wx + (5063812098665367110 : Int64))) &&& (-9187201950435737472 : Int64)) = (0 : Int64)))
def Q4 (Z : State) (wx : Int64) (n0 : Nat) (Rst : RL) (v : Option Value) (h : Heap) (L : List Loc) : Prop := v = some (.int (F4 wx)) ∧ Fr n0 L ∧ Rep Z n0 h (Rst)
set_option maxRecDepth 65536 in
set_option maxHeartbeats 40000000 in
theorem rm4 (l : Launch) (Z : State) (a0 : Array Value) (hw : ∀ d ∈ tables_1, d.before a0 Z = true) (ws : List Jvm.Cond) (wx : Int64) (h0 : Heap) (n0 : Nat) (Rst : RL) (R0 : Rep Z n0 h0 (Rst)) :
    MetFree l (⟨"com/example/tidemark/tidemark/input/Words", "allDigits", "(J)Z"⟩ : MethodName) (head1 (Jvm.Cond.code (⟨"com/example/tidemark/tidemark/input/Words", "allDigits", "(J)Z"⟩ : MethodName) prog_94_method_6_code 2 (some .boolean) :: ws) ({ frames := 0, cells := 0, slots := 0, locals := 0 } : Room)) (fun a U => a = #[(.long wx)] ∧ Z.Warmed39 U.vm ∧ U.heap = h0) (fun _ _ _ _ _ => True) (fun _ U o U' => ∃ v L, o = .returned v ∧ Q4 Z wx n0 Rst v U'.heap L ∧ FrameEnd U o U' L ({ frames := 0, cells := 0, slots := 0, locals := 0 } : Room).cells ({ frames := 0, cells := 0, slots := 0, locals := 0 } : Room).slots) := by
  refine MetFree.of_bodySF (plainFor_of_name pn_com_example_tidemark_tidemark_input_Words) hisR ?_
  intro p e s m args below meth c s₁ Bd hml0 hP hK
  obtain ⟨rfl, hZ, hh⟩ := hP
  have hx := Bd.exec
  have hby := Bd.bytes
  have hml : c.maxLocals = 2 := hml0
  have hown : s.vm.findClass "com/example/tidemark/tidemark/input/Words" = some m.cls := findClass_of_methodNamed Bd.named
  have hnm := (name_of_methodNamed Bd.named Bd.method).1
  have X0 : Stand p l e ({ frames := 0, cells := 0, slots := 0, locals := 0 } : Room) s m #[(.long wx)] below meth c s₁ [] 0 0 := Stand.of_body Bd
  have e0 : s₁.heap = h0 := by rw [← hh, Bd.state]; rfl
  have N0 := Fr.nil n0
  have pre0 : ∀ t, Steps p.tables e below (s₁.setTop (mkF m 0 #[.val (.long wx), .second] [])) t → Steps p.tables e below (s₁.setTop (entryFrame m #[(.long wx)] 2)) t := fun t k => castTop (ef_4 m wx) k
  have pre3 : ∀ t, Steps p.tables e below (s₁.setTop (mkF m 17 #[.val (.long wx), .second] [(.int (XT.cmpL (((wx - (3472328296227680304 : Int64)) ||| (wx + (5063812098665367110 : Int64))) &&& (-9187201950435737472 : Int64)) (0 : Int64)))])) t → Steps p.tables e below (s₁.setTop (entryFrame m #[(.long wx)] 2)) t := fun t k => pre0 t (by
    show Steps p.tables e below (s₁.setTop (mkF m 0 #[.val (.long wx), .second] [])) _
    refine XS.lloadN X0.here hx rfl (hb hby d4_0) rfl ?_
    refine X0.ldc2Long hx hown (mvT hZ (hw _ (List.mem_of_getElem? (i := 18) rfl))) (g := (mkF m 1 #[.val (.long wx), .second] [(.long wx)])) rfl (hb hby d4_1) _ ?_
    refine XS.lsub X0.here hx rfl (hb hby d4_4) rfl ?_
    refine XS.lloadN X0.here hx rfl (hb hby d4_5) rfl ?_
    refine X0.ldc2Long hx hown (mvT hZ (hw _ (List.mem_of_getElem? (i := 19) rfl))) (g := (mkF m 6 #[.val (.long wx), .second] [(.long wx), (.long (wx - (3472328296227680304 : Int64)))])) rfl (hb hby d4_6) _ ?_
    refine XS.ladd X0.here hx rfl (hb hby d4_9) rfl ?_
    refine XS.lor X0.here hx rfl (hb hby d4_10) rfl ?_
    show Steps p.tables e below (s₁.setTop (mkF m 11 #[.val (.long wx), .second] [(.long ((wx - (3472328296227680304 : Int64)) ||| (wx + (5063812098665367110 : Int64))))])) _
    refine X0.ldc2Long hx hown (mvT hZ (hw _ (List.mem_of_getElem? (i := 20) rfl))) (g := (mkF m 11 #[.val (.long wx), .second] [(.long ((wx - (3472328296227680304 : Int64)) ||| (wx + (5063812098665367110 : Int64))))])) rfl (hb hby d4_11) _ ?_
    refine XS.land X0.here hx rfl (hb hby d4_14) rfl ?_
    refine XS.lconst X0.here hx rfl (hb hby d4_15) ?_
    refine XS.lcmp X0.here hx rfl (hb hby d4_16) rfl ?_
    exact k)
  have tl2 : ∀ t, Steps p.tables e below (s₁.setTop (mkF m 25 #[.val (.long wx), .second] [(.int (bz ((((wx - (3472328296227680304 : Int64)) ||| (wx + (5063812098665367110 : Int64))) &&& (-9187201950435737472 : Int64)) = (0 : Int64))))])) t → Steps p.tables e below (s₁.setTop (mkF m 17 #[.val (.long wx), .second] [(.int (XT.cmpL (((wx - (3472328296227680304 : Int64)) ||| (wx + (5063812098665367110 : Int64))) &&& (-9187201950435737472 : Int64)) (0 : Int64)))])) t := fun t k => by
    by_cases hb1 : (((wx - (3472328296227680304 : Int64)) ||| (wx + (5063812098665367110 : Int64))) &&& (-9187201950435737472 : Int64)) = (0 : Int64)
    · refine XS.ifNo X0.here hx rfl (hb hby d4_17) rfl (XT.ll_ne_f hb1) ?_
      rw [bz_one (P := ((((wx - (3472328296227680304 : Int64)) ||| (wx + (5063812098665367110 : Int64))) &&& (-9187201950435737472 : Int64)) = (0 : Int64))) (iff_true_intro hb1)] at k
      show Steps p.tables e below (s₁.setTop (mkF m 20 #[.val (.long wx), .second] [])) _
      refine XS.iconst X0.here hx rfl (hb hby d4_20) ?_
      refine XS.goto X0.here hx rfl (pc0 := 21) (pc' := 25) rfl (hb hby d4_21) (by decide) (by decide) ?_
      exact k
    · refine XS.ifYes X0.here hx rfl (pc0 := 17) (pc' := 24) rfl (hb hby d4_17) rfl (XT.ll_ne_t hb1) (by decide) (by decide) ?_
      rw [bz_zero (P := ((((wx - (3472328296227680304 : Int64)) ||| (wx + (5063812098665367110 : Int64))) &&& (-9187201950435737472 : Int64)) = (0 : Int64))) (iff_false_intro hb1)] at k
      show Steps p.tables e below (s₁.setTop (mkF m 24 #[.val (.long wx), .second] [])) _
      refine XS.iconst X0.here hx rfl (hb hby d4_24) ?_
      exact k
  have pre4 : ∀ t, Steps p.tables e below (s₁.setTop (mkF m 25 #[.val (.long wx), .second] [(.int (bz ((((wx - (3472328296227680304 : Int64)) ||| (wx + (5063812098665367110 : Int64))) &&& (-9187201950435737472 : Int64)) = (0 : Int64))))])) t → Steps p.tables e below (s₁.setTop (entryFrame m #[(.long wx)] 2)) t := fun t k => pre3 t (by
    exact tl2 t k)
  obtain ⟨fs, hr, hrun, hended, hW, hsame⟩ := X0.leave (v := some (.int (nar .boolean (bz ((((wx - (3472328296227680304 : Int64)) ||| (wx + (5063812098665367110 : Int64))) &&& (-9187201950435737472 : Int64)) = (0 : Int64)))))) (fun h => by rw [Bd.returns] at h; cases h)
  refine ⟨_, _, pre4 _ ?_, hrun, hended, _, _, rfl, ?_, ⟨_, rfl⟩, hW, hsame.mono (by decide) (by decide)⟩
  · show Steps p.tables e below (s₁.setTop (mkF m 25 #[.val (.long wx), .second] [(.int (bz ((((wx - (3472328296227680304 : Int64)) ||| (wx + (5063812098665367110 : Int64))) &&& (-9187201950435737472 : Int64)) = (0 : Int64))))])) _
    exact retN X0 hx (t := .boolean) Bd.returns (by simp) (hb hby d4_25) hr
  · show Q4 Z wx n0 Rst _ s₁.heap _
    rw [e0]
    exact ⟨(by exact congrArg (fun z => some (Value.int z)) (by simp only [F4] <;> first | rfl | exact nar_b _ | decide)), N0, R0⟩
/-- byte i of a natural number -/
def own_by (w i : Nat) : Nat := w / 256 ^ i % 256
def own_A : Nat → Nat
  | 0 => 0
  | n + 1 => 48 + 256 * own_A n
def own_B : Nat → Nat
  | 0 => 0
  | n + 1 => 70 + 256 * own_B n
theorem own_A_lt : ∀ n, own_A n < 256 ^ n
  | 0 => by decide
  | n + 1 => by have := own_A_lt n; rw [own_A, Nat.pow_succ]; omega
/-- the sums carry nothing over where every byte is a digit: the test of all bytes at once -/
theorem own_swar : ∀ (n w : Nat), (∀ i, i < n → own_by (w + own_B n) i < 128 ∧ own_by (w + (256 ^ n - own_A n)) i < 128) ↔ (∀ i, i < n → 48 ≤ own_by w i ∧ own_by w i ≤ 57)
  | 0, w => ⟨fun _ i h => absurd h (by omega), fun _ i h => absurd h (by omega)⟩
  | n + 1, w => by
    have hA := own_A_lt n
    have ih := own_swar n (w / 256)
    have s0 : ∀ x, own_by x 0 = x % 256 := fun x => by simp [own_by]
    have s1 : ∀ x i, own_by x (i + 1) = own_by (x / 256) i := fun x i => by
      simp only [own_by]; rw [Nat.pow_succ, Nat.mul_comm, Nat.div_div_eq_div_mul]
    have z1 : (w + own_B (n + 1)) % 256 = (w % 256 + 70) % 256 := by rw [own_B]; omega
    have z2 : (w + (256 ^ (n + 1) - own_A (n + 1))) % 256 = (w % 256 + 208) % 256 := by rw [own_A, Nat.pow_succ]; omega
    have q1 : w % 256 ≤ 57 → (w + own_B (n + 1)) / 256 = w / 256 + own_B n := fun h => by rw [own_B]; omega
    have q2 : 48 ≤ w % 256 → (w + (256 ^ (n + 1) - own_A (n + 1))) / 256 = w / 256 + (256 ^ n - own_A n) := fun h => by rw [own_A, Nat.pow_succ]; omega
    constructor
    · intro h
      have h0 := h 0 (by omega)
      rw [s0, s0, z1, z2] at h0
      have b : 48 ≤ w % 256 ∧ w % 256 ≤ 57 := by omega
      have r := ih.mp fun i hi => by
        have := h (i + 1) (by omega)
        rw [s1, s1, q1 b.2, q2 b.1] at this
        exact this
      intro i hi
      cases i with
      | zero => rw [s0]; exact b
      | succ i => rw [s1]; exact r i (by omega)
    · intro h
      have b := h 0 (by omega)
      rw [s0] at b
      have r := ih.mpr fun i hi => by
        have := h (i + 1) (by omega)
        rw [s1] at this
        exact this
      intro i hi
      cases i with
      | zero => rw [s0, s0, z1, z2]; omega
      | succ i => rw [s1, s1, q1 b.2, q2 b.1]; exact r i (by omega)
theorem own_bit (x i : Nat) : x.testBit (8 * i + 7) = decide (128 ≤ own_by x i) := by
  rw [Nat.testBit_eq_decide_div_mod_eq, own_by, show 8 * i + 7 = 8 * i + 7 from rfl, Nat.pow_add, ← Nat.div_div_eq_div_mul, show (2 : Nat) ^ (8 * i) = 256 ^ i by rw [Nat.pow_mul]]
  apply decide_eq_decide.mpr
  omega
theorem own_M : ∀ j : Fin 64, (9259542123273814144 : Nat).testBit j.1 = decide (j.1 % 8 = 7) := by decide +kernel
theorem own_mask (x y : Nat) (hx : x < 2 ^ 64) (hy : y < 2 ^ 64) : (x ||| y) &&& 9259542123273814144 = 0 ↔ ∀ i, i < 8 → own_by y i < 128 ∧ own_by x i < 128 := by
  constructor
  · intro h i hi
    have t := congrArg (fun n => n.testBit (8 * i + 7)) h
    simp only [Nat.testBit_and, Nat.testBit_or, Nat.zero_testBit] at t
    rw [own_M ⟨8 * i + 7, by omega⟩, own_bit, own_bit] at t
    simp only [show (8 * i + 7) % 8 = 7 by omega, decide_true, Bool.and_true, Bool.or_eq_false_iff, decide_eq_false_iff_not] at t
    omega
  · intro h
    apply Nat.eq_of_testBit_eq
    intro j
    rw [Nat.testBit_and, Nat.testBit_or, Nat.zero_testBit]
    by_cases q : j < 64
    · rw [own_M ⟨j, q⟩]
      by_cases r : j % 8 = 7
      · obtain ⟨i, rfl⟩ : ∃ i, j = 8 * i + 7 := ⟨j / 8, by omega⟩
        have := h i (by omega)
        rw [own_bit, own_bit]
        simp only [show ¬ 128 ≤ own_by x i by omega, show ¬ 128 ≤ own_by y i by omega, decide_false, Bool.or_self, Bool.false_and]
      · simp only [r, decide_false, Bool.and_false]
    · rw [Nat.testBit_lt_two_pow (Nat.lt_of_lt_of_le hx (Nat.pow_le_pow_right (by decide) (by omega))), Nat.testBit_lt_two_pow (Nat.lt_of_lt_of_le hy (Nat.pow_le_pow_right (by decide) (by omega)))]
      rfl
theorem own_bymod (x i : Nat) (hi : i < 8) : own_by (x % 18446744073709551616) i = own_by x i := by
  have : ∀ i : Fin 8, ∃ k, 18446744073709551616 = 256 ^ i.1 * (256 * k) := by
    intro i
    refine ⟨256 ^ (7 - i.1), ?_⟩
    have : ∀ i : Fin 8, 18446744073709551616 = 256 ^ i.1 * (256 * 256 ^ (7 - i.1)) := by decide +kernel
    exact this i
  obtain ⟨k, hk⟩ := this ⟨i, hi⟩
  simp only at hk
  rw [own_by, own_by, hk, Nat.mod_mul_right_div_self, Nat.mod_mul_right_mod]
theorem own_F4 (w : Int64) : F4 w = bz (∀ i : Fin 8, 48 ≤ own_by (nj w) i.1 ∧ own_by (nj w) i.1 ≤ 57) := by
  unfold F4
  apply bz_congr
  have e0 : ∀ z : Int64, z = (0 : Int64) ↔ nj z = 0 := fun z => ⟨fun h => by rw [h]; rfl, fun h => nj_inj h⟩
  rw [e0, nj_and, nj_or, nj_sub, nj_add, show nj (-9187201950435737472 : Int64) = 9259542123273814144 from rfl, show nj (3472328296227680304 : Int64) = own_A 8 from rfl, show nj (5063812098665367110 : Int64) = own_B 8 from rfl, own_mask _ _ (Nat.mod_lt _ (by decide)) (Nat.mod_lt _ (by decide))]
  have k := own_swar 8 (nj w)
  constructor
  · intro h i
    refine k.mp (fun i hi => ?_) i.1 i.2
    have := h i hi
    rw [own_bymod _ _ hi, own_bymod _ _ hi, Nat.add_comm (18446744073709551616 - own_A 8)] at this
    exact this
  · intro h i hi
    have := k.mpr (fun i hi => h ⟨i, hi⟩) i hi
    rw [own_bymod _ _ hi, own_bymod _ _ hi, Nat.add_comm (18446744073709551616 - own_A 8)]
    exact this
theorem own_F3 (w : Int64) (q : Int32) (i : Nat) (hi : i < 8) (hq : ni ((8 : Int32) * q) % 64 = 8 * i) : (F3 (F2 w q)) = (0 : Int32) ↔ ¬ (48 ≤ own_by (nj w) i ∧ own_by (nj w) i ≤ 57) := by
  unfold F3 F2
  rw [byteJ _ _ _ hq, show (2 : Nat) ^ (8 * i) = 256 ^ i by rw [Nat.pow_mul]]
  show bz _ = 0 ↔ ¬ (48 ≤ nj w / 256 ^ i % 256 ∧ nj w / 256 ^ i % 256 ≤ 57)
  have hb : nj w / 256 ^ i % 256 < 256 := Nat.mod_lt _ (by decide)
  generalize nj w / 256 ^ i % 256 = b at hb
  have e : (Int64.ofNat b).toInt = b := Int64.toInt_ofNat_of_lt (by omega)
  have f : ((¬ (Int64.ofNat b < (48 : Int64))) ∧ (¬ ((57 : Int64) < Int64.ofNat b))) ↔ (48 ≤ b ∧ b ≤ 57) := by
    rw [lt64, lt64, e, show (48 : Int64).toInt = 48 from rfl, show (57 : Int64).toInt = 57 from rfl]
    omega
  rw [bz_congr f]
  by_cases q : 48 ≤ b ∧ b ≤ 57
  · rw [bz_t q]; exact ⟨fun h => absurd h (by decide), fun h => absurd q h⟩
  · rw [bz, if_neg q]; exact ⟨fun _ => q, fun _ => rfl⟩
theorem own_no (w : Int64) (q : Int32) (i : Nat) (hi : i < 8) (hq : ni ((8 : Int32) * q) % 64 = 8 * i) (h : (F3 (F2 w q)) = (0 : Int32)) : (F4 w) = (0 : Int32) := by
  rw [own_F4, bz, if_neg]
  exact fun a => (own_F3 w q i hi hq).mp h (a ⟨i, hi⟩)
theorem own_yes (w : Int64) (h0 : ¬ (F3 (F2 w (0 : Int32))) = (0 : Int32)) (h1 : ¬ (F3 (F2 w (1 : Int32))) = (0 : Int32)) (h2 : ¬ (F3 (F2 w (2 : Int32))) = (0 : Int32)) (h3 : ¬ (F3 (F2 w (3 : Int32))) = (0 : Int32)) (h4 : ¬ (F3 (F2 w (4 : Int32))) = (0 : Int32)) (h5 : ¬ (F3 (F2 w (5 : Int32))) = (0 : Int32)) (h6 : ¬ (F3 (F2 w (6 : Int32))) = (0 : Int32)) : (F4 w) = (bz (¬ ((F3 (F2 w (7 : Int32))) = (0 : Int32)))) := by
  rw [own_F4]
  apply bz_congr
  rw [own_F3 w (7 : Int32) 7 (by decide) rfl] 
  rw [own_F3 w (0 : Int32) 0 (by decide) rfl] at h0
  rw [own_F3 w (1 : Int32) 1 (by decide) rfl] at h1
  rw [own_F3 w (2 : Int32) 2 (by decide) rfl] at h2
  rw [own_F3 w (3 : Int32) 3 (by decide) rfl] at h3
  rw [own_F3 w (4 : Int32) 4 (by decide) rfl] at h4
  rw [own_F3 w (5 : Int32) 5 (by decide) rfl] at h5
  rw [own_F3 w (6 : Int32) 6 (by decide) rfl] at h6
  constructor
  · intro h q
    exact q (h ⟨7, by decide⟩)
  · intro h i
    have : i.1 = 0 ∨ i.1 = 1 ∨ i.1 = 2 ∨ i.1 = 3 ∨ i.1 = 4 ∨ i.1 = 5 ∨ i.1 = 6 ∨ i.1 = 7 := by omega
    rcases this with e | e | e | e | e | e | e | e <;> rw [e] <;> omega
theorem pd__28JJII_29J : parseMethodDescriptor "(JJII)J" = some ⟨[.long, .long, .int, .int], some .long⟩ := by decide +kernel
theorem pd__28J_29Z : parseMethodDescriptor "(J)Z" = some ⟨[.long], some .boolean⟩ := by decide +kernel
theorem ef_0 (m : MethodId) (x0 : Int64) (x1 : Int64) (x2 : Int32) : entryFrame m #[(.long x0), (.long x1), (.int x2)] maxLocals = mkF m 0 #[.val (.long x0), .second, .val (.long x1), .second, .val (.int x2), .unset, .unset, .unset] [] := by first | (simp [entryFrame, mkF, argsToLocals, Value.category, maxLocals]; done) | rfl
def Q0 (Z : State) (rx : Int64) (dx : Int64) (sx : Int32) (n0 : Nat) (Rst : RL) (v : Option Value) (h : Heap) (L : List Loc) : Prop := v = some (.int (1 : Int32)) ∧ Fr n0 L ∧ Rep Z n0 h (Rst)
set_option maxRecDepth 65536 in
set_option maxHeartbeats 40000000 in
theorem rm0 (l : Launch) (Z : State) (a0 : Array Value) (hw : ∀ d ∈ tables_1, d.before a0 Z = true) (ws : List Jvm.Cond) (rx : Int64) (dx : Int64) (sx : Int32) (h0 : Heap) (n0 : Nat) (R0 : Rep Z n0 h0 ([])) :
    MetFree l x (head1 (Jvm.Cond.code x code maxLocals ret :: ws) room_1) (fun a U => a = #[(.long rx), (.long dx), (.int sx)] ∧ Z.Warmed39 U.vm ∧ U.heap = h0) (fun _ _ _ _ _ => True) (fun _ U o U' => ∃ v L, o = .returned v ∧ Q0 Z rx dx sx n0 [] v U'.heap L ∧ FrameEnd U o U' L 0 0) := by
  refine MetFree.of_bodySF (plainFor_of_name pn_com_example_tidemark_tidemark_input_WordsAllDigitsPinLaw) hisR ?_
  intro p e s m args below meth c s₁ Bd hml0 hP hK
  obtain ⟨rfl, hZ, hh⟩ := hP
  have hx := Bd.exec
  have hby := Bd.bytes
  have hml : c.maxLocals = 8 := hml0
  have hown : s.vm.findClass "com/example/tidemark/tidemark/input/WordsAllDigitsPinLaw" = some m.cls := findClass_of_methodNamed Bd.named
  have hnm := (name_of_methodNamed Bd.named Bd.method).1
  have X0 : Stand p l e room_1 s m #[(.long rx), (.long dx), (.int sx)] below meth c s₁ [] 0 0 := Stand.of_body Bd
  have e0 : s₁.heap = h0 := by rw [← hh, Bd.state]; rfl
  have N0 := Fr.nil n0
  have pre0 : ∀ t, Steps p.tables e below (s₁.setTop (mkF m 0 #[.val (.long rx), .second, .val (.long dx), .second, .val (.int sx), .unset, .unset, .unset] [])) t → Steps p.tables e below (s₁.setTop (entryFrame m #[(.long rx), (.long dx), (.int sx)] maxLocals)) t := fun t k => castTop (ef_0 m rx dx sx) k
  have pre1 : ∀ t, Steps p.tables e below (s₁.setTop (mkF m 5 #[.val (.long rx), .second, .val (.long dx), .second, .val (.int sx), .unset, .unset, .unset] [(.int (0 : Int32)), (.int sx), (.long dx), (.long rx)])) t → Steps p.tables e below (s₁.setTop (entryFrame m #[(.long rx), (.long dx), (.int sx)] maxLocals)) t := fun t k => pre0 t (by
    show Steps p.tables e below (s₁.setTop (mkF m 0 #[.val (.long rx), .second, .val (.long dx), .second, .val (.int sx), .unset, .unset, .unset] [])) _
    refine XS.lloadN X0.here hx rfl (hb hby at_0) rfl ?_
    refine XS.lloadN X0.here hx rfl (hb hby at_1) rfl ?_
    refine XS.iload X0.here hx rfl (hb hby at_2) rfl ?_
    refine XS.iconst X0.here hx rfl (hb hby at_4) ?_
    exact k)
  obtain ⟨_, _, ⟨T2, L2, k2, n2⟩, -, X2, ⟨Lc2, hQ2, l2, y2, z2⟩, st2⟩ := Jvm.LawKit.callS X0 hx (y := (⟨"com/example/tidemark/tidemark/input/WordsAllDigitsPinLaw", "pick", "(JJII)J"⟩ : MethodName)) hown (mvT hZ (hw _ (List.mem_of_getElem? (i := 0) rfl))) (mvT hZ (hw _ (List.mem_of_getElem? (i := 1) rfl))) (mvT hZ (hw _ (List.mem_of_getElem? (i := 2) rfl))) (mvT hZ (hw _ (List.mem_of_getElem? (i := 3) rfl))) (by decide) (backOf (W := 0) (rm1 l Z a0 hw [] rx dx sx (0 : Int32)  h0 n0 _ R0 ) hZ (hw _ (List.mem_of_getElem? (i := 3) rfl)) (hw _ (List.mem_of_getElem? (i := 2) rfl)) (by decide) (by decide)) (g := (mkF m 5 #[.val (.long rx), .second, .val (.long dx), .second, .val (.int sx), .unset, .unset, .unset] [(.int (0 : Int32)), (.int sx), (.long dx), (.long rx)])) rfl (by rw [hml]; rfl) (argsL := [(.long rx), (.long dx), (.int sx), (.int (0 : Int32))]) (rest := []) (lenOf pd__28JJII_29J rfl) rfl (by show 2 * 0 + _ ≤ _; exact Nat.le_of_eq rfl) (hb hby at_5) (fun _ _ => ⟨rfl, e0, (by decide : 0 + 0 ≤ _), (by decide : 0 + 0 ≤ _)⟩)
  dsimp only [Pt.U, Pt.locs, Pt.cells, Pt.slots] at X2 l2 y2 z2 st2 hQ2
  subst y2 z2
  obtain ⟨rfl, N2q, R2⟩ := hQ2
  have N2 : Fr n0 L2 := by rw [l2]; exact Fr.app N0 N2q
  replace R2 : Rep Z n0 T2.heap ([]) := R2
  have pre3 : ∀ t, Steps p.tables e below (T2.setTop (mkF m 8 #[.val (.long rx), .second, .val (.long dx), .second, .val (.int sx), .unset, .unset, .unset] [(.long (F1 rx dx sx (0 : Int32)))])) t → Steps p.tables e below (s₁.setTop (entryFrame m #[(.long rx), (.long dx), (.int sx)] maxLocals)) t := fun t k => pre1 t (st2 t k)
  have pre4 : ∀ t, Steps p.tables e below (T2.setTop (mkF m 13 #[.val (.long rx), .second, .val (.long dx), .second, .val (.int sx), .unset, .unset, .unset] [(.int (1 : Int32)), (.int sx), (.long dx), (.long rx), (.long (F1 rx dx sx (0 : Int32)))])) t → Steps p.tables e below (s₁.setTop (entryFrame m #[(.long rx), (.long dx), (.int sx)] maxLocals)) t := fun t k => pre3 t (by
    show Steps p.tables e below (T2.setTop (mkF m 8 #[.val (.long rx), .second, .val (.long dx), .second, .val (.int sx), .unset, .unset, .unset] [(.long (F1 rx dx sx (0 : Int32)))])) _
    refine XS.lloadN X2.here hx rfl (hb hby at_8) rfl ?_
    refine XS.lloadN X2.here hx rfl (hb hby at_9) rfl ?_
    refine XS.iload X2.here hx rfl (hb hby at_10) rfl ?_
    refine XS.iconst X2.here hx rfl (hb hby at_12) ?_
    exact k)
  obtain ⟨_, _, ⟨T5, L5, k5, n5⟩, -, X5, ⟨Lc5, hQ5, l5, y5, z5⟩, st5⟩ := Jvm.LawKit.callS X2 hx (y := (⟨"com/example/tidemark/tidemark/input/WordsAllDigitsPinLaw", "pick", "(JJII)J"⟩ : MethodName)) hown (mvT hZ (hw _ (List.mem_of_getElem? (i := 0) rfl))) (mvT hZ (hw _ (List.mem_of_getElem? (i := 1) rfl))) (mvT hZ (hw _ (List.mem_of_getElem? (i := 2) rfl))) (mvT hZ (hw _ (List.mem_of_getElem? (i := 3) rfl))) (by decide) (backOf (W := 2) (rm1 l Z a0 hw [] rx dx sx (1 : Int32)  T2.heap n0 _ R2 ) hZ (hw _ (List.mem_of_getElem? (i := 3) rfl)) (hw _ (List.mem_of_getElem? (i := 2) rfl)) (by decide) (by decide)) (g := (mkF m 13 #[.val (.long rx), .second, .val (.long dx), .second, .val (.int sx), .unset, .unset, .unset] [(.int (1 : Int32)), (.int sx), (.long dx), (.long rx), (.long (F1 rx dx sx (0 : Int32)))])) rfl (by rw [hml]; rfl) (argsL := [(.long rx), (.long dx), (.int sx), (.int (1 : Int32))]) (rest := [(.long (F1 rx dx sx (0 : Int32)))]) (lenOf pd__28JJII_29J rfl) rfl (by show 2 * 0 + _ ≤ _; exact Nat.le_of_eq rfl) (hb hby at_13) (fun _ _ => ⟨rfl, rfl, (by decide : 0 + 0 ≤ _), (by decide : 0 + 0 ≤ _)⟩)
  dsimp only [Pt.U, Pt.locs, Pt.cells, Pt.slots] at X5 l5 y5 z5 st5 hQ5
  subst y5 z5
  obtain ⟨rfl, N5q, R5⟩ := hQ5
  have N5 : Fr n0 L5 := by rw [l5]; exact Fr.app N2 N5q
  replace R5 : Rep Z n0 T5.heap ([]) := R5
  have pre6 : ∀ t, Steps p.tables e below (T5.setTop (mkF m 16 #[.val (.long rx), .second, .val (.long dx), .second, .val (.int sx), .unset, .unset, .unset] [(.long (F1 rx dx sx (1 : Int32))), (.long (F1 rx dx sx (0 : Int32)))])) t → Steps p.tables e below (s₁.setTop (entryFrame m #[(.long rx), (.long dx), (.int sx)] maxLocals)) t := fun t k => pre4 t (st5 t k)
  have pre7 : ∀ t, Steps p.tables e below (T5.setTop (mkF m 22 #[.val (.long rx), .second, .val (.long dx), .second, .val (.int sx), .unset, .unset, .unset] [(.int (2 : Int32)), (.int sx), (.long dx), (.long rx), (.long ((F1 rx dx sx (0 : Int32)) ||| (F1 rx dx sx (1 : Int32))))])) t → Steps p.tables e below (s₁.setTop (entryFrame m #[(.long rx), (.long dx), (.int sx)] maxLocals)) t := fun t k => pre6 t (by
    show Steps p.tables e below (T5.setTop (mkF m 16 #[.val (.long rx), .second, .val (.long dx), .second, .val (.int sx), .unset, .unset, .unset] [(.long (F1 rx dx sx (1 : Int32))), (.long (F1 rx dx sx (0 : Int32)))])) _
    refine XS.lor X5.here hx rfl (hb hby at_16) rfl ?_
    refine XS.lloadN X5.here hx rfl (hb hby at_17) rfl ?_
    refine XS.lloadN X5.here hx rfl (hb hby at_18) rfl ?_
    refine XS.iload X5.here hx rfl (hb hby at_19) rfl ?_
    refine XS.iconst X5.here hx rfl (hb hby at_21) ?_
    exact k)
  obtain ⟨_, _, ⟨T8, L8, k8, n8⟩, -, X8, ⟨Lc8, hQ8, l8, y8, z8⟩, st8⟩ := Jvm.LawKit.callS X5 hx (y := (⟨"com/example/tidemark/tidemark/input/WordsAllDigitsPinLaw", "pick", "(JJII)J"⟩ : MethodName)) hown (mvT hZ (hw _ (List.mem_of_getElem? (i := 0) rfl))) (mvT hZ (hw _ (List.mem_of_getElem? (i := 1) rfl))) (mvT hZ (hw _ (List.mem_of_getElem? (i := 2) rfl))) (mvT hZ (hw _ (List.mem_of_getElem? (i := 3) rfl))) (by decide) (backOf (W := 2) (rm1 l Z a0 hw [] rx dx sx (2 : Int32)  T5.heap n0 _ R5 ) hZ (hw _ (List.mem_of_getElem? (i := 3) rfl)) (hw _ (List.mem_of_getElem? (i := 2) rfl)) (by decide) (by decide)) (g := (mkF m 22 #[.val (.long rx), .second, .val (.long dx), .second, .val (.int sx), .unset, .unset, .unset] [(.int (2 : Int32)), (.int sx), (.long dx), (.long rx), (.long ((F1 rx dx sx (0 : Int32)) ||| (F1 rx dx sx (1 : Int32))))])) rfl (by rw [hml]; rfl) (argsL := [(.long rx), (.long dx), (.int sx), (.int (2 : Int32))]) (rest := [(.long ((F1 rx dx sx (0 : Int32)) ||| (F1 rx dx sx (1 : Int32))))]) (lenOf pd__28JJII_29J rfl) rfl (by show 2 * 0 + _ ≤ _; exact Nat.le_of_eq rfl) (hb hby at_22) (fun _ _ => ⟨rfl, rfl, (by decide : 0 + 0 ≤ _), (by decide : 0 + 0 ≤ _)⟩)
  dsimp only [Pt.U, Pt.locs, Pt.cells, Pt.slots] at X8 l8 y8 z8 st8 hQ8
  subst y8 z8
  obtain ⟨rfl, N8q, R8⟩ := hQ8
  have N8 : Fr n0 L8 := by rw [l8]; exact Fr.app N5 N8q
  replace R8 : Rep Z n0 T8.heap ([]) := R8
  have pre9 : ∀ t, Steps p.tables e below (T8.setTop (mkF m 25 #[.val (.long rx), .second, .val (.long dx), .second, .val (.int sx), .unset, .unset, .unset] [(.long (F1 rx dx sx (2 : Int32))), (.long ((F1 rx dx sx (0 : Int32)) ||| (F1 rx dx sx (1 : Int32))))])) t → Steps p.tables e below (s₁.setTop (entryFrame m #[(.long rx), (.long dx), (.int sx)] maxLocals)) t := fun t k => pre7 t (st8 t k)
  have pre10 : ∀ t, Steps p.tables e below (T8.setTop (mkF m 31 #[.val (.long rx), .second, .val (.long dx), .second, .val (.int sx), .unset, .unset, .unset] [(.int (3 : Int32)), (.int sx), (.long dx), (.long rx), (.long (((F1 rx dx sx (0 : Int32)) ||| (F1 rx dx sx (1 : Int32))) ||| (F1 rx dx sx (2 : Int32))))])) t → Steps p.tables e below (s₁.setTop (entryFrame m #[(.long rx), (.long dx), (.int sx)] maxLocals)) t := fun t k => pre9 t (by
    show Steps p.tables e below (T8.setTop (mkF m 25 #[.val (.long rx), .second, .val (.long dx), .second, .val (.int sx), .unset, .unset, .unset] [(.long (F1 rx dx sx (2 : Int32))), (.long ((F1 rx dx sx (0 : Int32)) ||| (F1 rx dx sx (1 : Int32))))])) _
    refine XS.lor X8.here hx rfl (hb hby at_25) rfl ?_
    refine XS.lloadN X8.here hx rfl (hb hby at_26) rfl ?_
    refine XS.lloadN X8.here hx rfl (hb hby at_27) rfl ?_
    refine XS.iload X8.here hx rfl (hb hby at_28) rfl ?_
    refine XS.iconst X8.here hx rfl (hb hby at_30) ?_
    exact k)
  obtain ⟨_, _, ⟨T11, L11, k11, n11⟩, -, X11, ⟨Lc11, hQ11, l11, y11, z11⟩, st11⟩ := Jvm.LawKit.callS X8 hx (y := (⟨"com/example/tidemark/tidemark/input/WordsAllDigitsPinLaw", "pick", "(JJII)J"⟩ : MethodName)) hown (mvT hZ (hw _ (List.mem_of_getElem? (i := 0) rfl))) (mvT hZ (hw _ (List.mem_of_getElem? (i := 1) rfl))) (mvT hZ (hw _ (List.mem_of_getElem? (i := 2) rfl))) (mvT hZ (hw _ (List.mem_of_getElem? (i := 3) rfl))) (by decide) (backOf (W := 2) (rm1 l Z a0 hw [] rx dx sx (3 : Int32)  T8.heap n0 _ R8 ) hZ (hw _ (List.mem_of_getElem? (i := 3) rfl)) (hw _ (List.mem_of_getElem? (i := 2) rfl)) (by decide) (by decide)) (g := (mkF m 31 #[.val (.long rx), .second, .val (.long dx), .second, .val (.int sx), .unset, .unset, .unset] [(.int (3 : Int32)), (.int sx), (.long dx), (.long rx), (.long (((F1 rx dx sx (0 : Int32)) ||| (F1 rx dx sx (1 : Int32))) ||| (F1 rx dx sx (2 : Int32))))])) rfl (by rw [hml]; rfl) (argsL := [(.long rx), (.long dx), (.int sx), (.int (3 : Int32))]) (rest := [(.long (((F1 rx dx sx (0 : Int32)) ||| (F1 rx dx sx (1 : Int32))) ||| (F1 rx dx sx (2 : Int32))))]) (lenOf pd__28JJII_29J rfl) rfl (by show 2 * 0 + _ ≤ _; exact Nat.le_of_eq rfl) (hb hby at_31) (fun _ _ => ⟨rfl, rfl, (by decide : 0 + 0 ≤ _), (by decide : 0 + 0 ≤ _)⟩)
  dsimp only [Pt.U, Pt.locs, Pt.cells, Pt.slots] at X11 l11 y11 z11 st11 hQ11
  subst y11 z11
  obtain ⟨rfl, N11q, R11⟩ := hQ11
  have N11 : Fr n0 L11 := by rw [l11]; exact Fr.app N8 N11q
  replace R11 : Rep Z n0 T11.heap ([]) := R11
  have pre12 : ∀ t, Steps p.tables e below (T11.setTop (mkF m 34 #[.val (.long rx), .second, .val (.long dx), .second, .val (.int sx), .unset, .unset, .unset] [(.long (F1 rx dx sx (3 : Int32))), (.long (((F1 rx dx sx (0 : Int32)) ||| (F1 rx dx sx (1 : Int32))) ||| (F1 rx dx sx (2 : Int32))))])) t → Steps p.tables e below (s₁.setTop (entryFrame m #[(.long rx), (.long dx), (.int sx)] maxLocals)) t := fun t k => pre10 t (st11 t k)
  have pre13 : ∀ t, Steps p.tables e below (T11.setTop (mkF m 40 #[.val (.long rx), .second, .val (.long dx), .second, .val (.int sx), .unset, .unset, .unset] [(.int (4 : Int32)), (.int sx), (.long dx), (.long rx), (.long ((((F1 rx dx sx (0 : Int32)) ||| (F1 rx dx sx (1 : Int32))) ||| (F1 rx dx sx (2 : Int32))) ||| (F1 rx dx sx (3 : Int32))))])) t → Steps p.tables e below (s₁.setTop (entryFrame m #[(.long rx), (.long dx), (.int sx)] maxLocals)) t := fun t k => pre12 t (by
    show Steps p.tables e below (T11.setTop (mkF m 34 #[.val (.long rx), .second, .val (.long dx), .second, .val (.int sx), .unset, .unset, .unset] [(.long (F1 rx dx sx (3 : Int32))), (.long (((F1 rx dx sx (0 : Int32)) ||| (F1 rx dx sx (1 : Int32))) ||| (F1 rx dx sx (2 : Int32))))])) _
    refine XS.lor X11.here hx rfl (hb hby at_34) rfl ?_
    refine XS.lloadN X11.here hx rfl (hb hby at_35) rfl ?_
    refine XS.lloadN X11.here hx rfl (hb hby at_36) rfl ?_
    refine XS.iload X11.here hx rfl (hb hby at_37) rfl ?_
    refine XS.iconst X11.here hx rfl (hb hby at_39) ?_
    exact k)
  obtain ⟨_, _, ⟨T14, L14, k14, n14⟩, -, X14, ⟨Lc14, hQ14, l14, y14, z14⟩, st14⟩ := Jvm.LawKit.callS X11 hx (y := (⟨"com/example/tidemark/tidemark/input/WordsAllDigitsPinLaw", "pick", "(JJII)J"⟩ : MethodName)) hown (mvT hZ (hw _ (List.mem_of_getElem? (i := 0) rfl))) (mvT hZ (hw _ (List.mem_of_getElem? (i := 1) rfl))) (mvT hZ (hw _ (List.mem_of_getElem? (i := 2) rfl))) (mvT hZ (hw _ (List.mem_of_getElem? (i := 3) rfl))) (by decide) (backOf (W := 2) (rm1 l Z a0 hw [] rx dx sx (4 : Int32)  T11.heap n0 _ R11 ) hZ (hw _ (List.mem_of_getElem? (i := 3) rfl)) (hw _ (List.mem_of_getElem? (i := 2) rfl)) (by decide) (by decide)) (g := (mkF m 40 #[.val (.long rx), .second, .val (.long dx), .second, .val (.int sx), .unset, .unset, .unset] [(.int (4 : Int32)), (.int sx), (.long dx), (.long rx), (.long ((((F1 rx dx sx (0 : Int32)) ||| (F1 rx dx sx (1 : Int32))) ||| (F1 rx dx sx (2 : Int32))) ||| (F1 rx dx sx (3 : Int32))))])) rfl (by rw [hml]; rfl) (argsL := [(.long rx), (.long dx), (.int sx), (.int (4 : Int32))]) (rest := [(.long ((((F1 rx dx sx (0 : Int32)) ||| (F1 rx dx sx (1 : Int32))) ||| (F1 rx dx sx (2 : Int32))) ||| (F1 rx dx sx (3 : Int32))))]) (lenOf pd__28JJII_29J rfl) rfl (by show 2 * 0 + _ ≤ _; exact Nat.le_of_eq rfl) (hb hby at_40) (fun _ _ => ⟨rfl, rfl, (by decide : 0 + 0 ≤ _), (by decide : 0 + 0 ≤ _)⟩)
  dsimp only [Pt.U, Pt.locs, Pt.cells, Pt.slots] at X14 l14 y14 z14 st14 hQ14
  subst y14 z14
  obtain ⟨rfl, N14q, R14⟩ := hQ14
  have N14 : Fr n0 L14 := by rw [l14]; exact Fr.app N11 N14q
  replace R14 : Rep Z n0 T14.heap ([]) := R14
  have pre15 : ∀ t, Steps p.tables e below (T14.setTop (mkF m 43 #[.val (.long rx), .second, .val (.long dx), .second, .val (.int sx), .unset, .unset, .unset] [(.long (F1 rx dx sx (4 : Int32))), (.long ((((F1 rx dx sx (0 : Int32)) ||| (F1 rx dx sx (1 : Int32))) ||| (F1 rx dx sx (2 : Int32))) ||| (F1 rx dx sx (3 : Int32))))])) t → Steps p.tables e below (s₁.setTop (entryFrame m #[(.long rx), (.long dx), (.int sx)] maxLocals)) t := fun t k => pre13 t (st14 t k)
  have pre16 : ∀ t, Steps p.tables e below (T14.setTop (mkF m 49 #[.val (.long rx), .second, .val (.long dx), .second, .val (.int sx), .unset, .unset, .unset] [(.int (5 : Int32)), (.int sx), (.long dx), (.long rx), (.long (((((F1 rx dx sx (0 : Int32)) ||| (F1 rx dx sx (1 : Int32))) ||| (F1 rx dx sx (2 : Int32))) ||| (F1 rx dx sx (3 : Int32))) ||| (F1 rx dx sx (4 : Int32))))])) t → Steps p.tables e below (s₁.setTop (entryFrame m #[(.long rx), (.long dx), (.int sx)] maxLocals)) t := fun t k => pre15 t (by
    show Steps p.tables e below (T14.setTop (mkF m 43 #[.val (.long rx), .second, .val (.long dx), .second, .val (.int sx), .unset, .unset, .unset] [(.long (F1 rx dx sx (4 : Int32))), (.long ((((F1 rx dx sx (0 : Int32)) ||| (F1 rx dx sx (1 : Int32))) ||| (F1 rx dx sx (2 : Int32))) ||| (F1 rx dx sx (3 : Int32))))])) _
    refine XS.lor X14.here hx rfl (hb hby at_43) rfl ?_
    refine XS.lloadN X14.here hx rfl (hb hby at_44) rfl ?_
    refine XS.lloadN X14.here hx rfl (hb hby at_45) rfl ?_
    refine XS.iload X14.here hx rfl (hb hby at_46) rfl ?_
    refine XS.iconst X14.here hx rfl (hb hby at_48) ?_
    exact k)
  obtain ⟨_, _, ⟨T17, L17, k17, n17⟩, -, X17, ⟨Lc17, hQ17, l17, y17, z17⟩, st17⟩ := Jvm.LawKit.callS X14 hx (y := (⟨"com/example/tidemark/tidemark/input/WordsAllDigitsPinLaw", "pick", "(JJII)J"⟩ : MethodName)) hown (mvT hZ (hw _ (List.mem_of_getElem? (i := 0) rfl))) (mvT hZ (hw _ (List.mem_of_getElem? (i := 1) rfl))) (mvT hZ (hw _ (List.mem_of_getElem? (i := 2) rfl))) (mvT hZ (hw _ (List.mem_of_getElem? (i := 3) rfl))) (by decide) (backOf (W := 2) (rm1 l Z a0 hw [] rx dx sx (5 : Int32)  T14.heap n0 _ R14 ) hZ (hw _ (List.mem_of_getElem? (i := 3) rfl)) (hw _ (List.mem_of_getElem? (i := 2) rfl)) (by decide) (by decide)) (g := (mkF m 49 #[.val (.long rx), .second, .val (.long dx), .second, .val (.int sx), .unset, .unset, .unset] [(.int (5 : Int32)), (.int sx), (.long dx), (.long rx), (.long (((((F1 rx dx sx (0 : Int32)) ||| (F1 rx dx sx (1 : Int32))) ||| (F1 rx dx sx (2 : Int32))) ||| (F1 rx dx sx (3 : Int32))) ||| (F1 rx dx sx (4 : Int32))))])) rfl (by rw [hml]; rfl) (argsL := [(.long rx), (.long dx), (.int sx), (.int (5 : Int32))]) (rest := [(.long (((((F1 rx dx sx (0 : Int32)) ||| (F1 rx dx sx (1 : Int32))) ||| (F1 rx dx sx (2 : Int32))) ||| (F1 rx dx sx (3 : Int32))) ||| (F1 rx dx sx (4 : Int32))))]) (lenOf pd__28JJII_29J rfl) rfl (by show 2 * 0 + _ ≤ _; exact Nat.le_of_eq rfl) (hb hby at_49) (fun _ _ => ⟨rfl, rfl, (by decide : 0 + 0 ≤ _), (by decide : 0 + 0 ≤ _)⟩)
  dsimp only [Pt.U, Pt.locs, Pt.cells, Pt.slots] at X17 l17 y17 z17 st17 hQ17
  subst y17 z17
  obtain ⟨rfl, N17q, R17⟩ := hQ17
  have N17 : Fr n0 L17 := by rw [l17]; exact Fr.app N14 N17q
  replace R17 : Rep Z n0 T17.heap ([]) := R17
  have pre18 : ∀ t, Steps p.tables e below (T17.setTop (mkF m 52 #[.val (.long rx), .second, .val (.long dx), .second, .val (.int sx), .unset, .unset, .unset] [(.long (F1 rx dx sx (5 : Int32))), (.long (((((F1 rx dx sx (0 : Int32)) ||| (F1 rx dx sx (1 : Int32))) ||| (F1 rx dx sx (2 : Int32))) ||| (F1 rx dx sx (3 : Int32))) ||| (F1 rx dx sx (4 : Int32))))])) t → Steps p.tables e below (s₁.setTop (entryFrame m #[(.long rx), (.long dx), (.int sx)] maxLocals)) t := fun t k => pre16 t (st17 t k)
  have pre19 : ∀ t, Steps p.tables e below (T17.setTop (mkF m 59 #[.val (.long rx), .second, .val (.long dx), .second, .val (.int sx), .unset, .unset, .unset] [(.int (6 : Int32)), (.int sx), (.long dx), (.long rx), (.long ((((((F1 rx dx sx (0 : Int32)) ||| (F1 rx dx sx (1 : Int32))) ||| (F1 rx dx sx (2 : Int32))) ||| (F1 rx dx sx (3 : Int32))) ||| (F1 rx dx sx (4 : Int32))) ||| (F1 rx dx sx (5 : Int32))))])) t → Steps p.tables e below (s₁.setTop (entryFrame m #[(.long rx), (.long dx), (.int sx)] maxLocals)) t := fun t k => pre18 t (by
    show Steps p.tables e below (T17.setTop (mkF m 52 #[.val (.long rx), .second, .val (.long dx), .second, .val (.int sx), .unset, .unset, .unset] [(.long (F1 rx dx sx (5 : Int32))), (.long (((((F1 rx dx sx (0 : Int32)) ||| (F1 rx dx sx (1 : Int32))) ||| (F1 rx dx sx (2 : Int32))) ||| (F1 rx dx sx (3 : Int32))) ||| (F1 rx dx sx (4 : Int32))))])) _
    refine XS.lor X17.here hx rfl (hb hby at_52) rfl ?_
    refine XS.lloadN X17.here hx rfl (hb hby at_53) rfl ?_
    refine XS.lloadN X17.here hx rfl (hb hby at_54) rfl ?_
    refine XS.iload X17.here hx rfl (hb hby at_55) rfl ?_
    refine XS.bipush X17.here hx rfl (hb hby at_57) ?_
    exact k)
  obtain ⟨_, _, ⟨T20, L20, k20, n20⟩, -, X20, ⟨Lc20, hQ20, l20, y20, z20⟩, st20⟩ := Jvm.LawKit.callS X17 hx (y := (⟨"com/example/tidemark/tidemark/input/WordsAllDigitsPinLaw", "pick", "(JJII)J"⟩ : MethodName)) hown (mvT hZ (hw _ (List.mem_of_getElem? (i := 0) rfl))) (mvT hZ (hw _ (List.mem_of_getElem? (i := 1) rfl))) (mvT hZ (hw _ (List.mem_of_getElem? (i := 2) rfl))) (mvT hZ (hw _ (List.mem_of_getElem? (i := 3) rfl))) (by decide) (backOf (W := 2) (rm1 l Z a0 hw [] rx dx sx (6 : Int32)  T17.heap n0 _ R17 ) hZ (hw _ (List.mem_of_getElem? (i := 3) rfl)) (hw _ (List.mem_of_getElem? (i := 2) rfl)) (by decide) (by decide)) (g := (mkF m 59 #[.val (.long rx), .second, .val (.long dx), .second, .val (.int sx), .unset, .unset, .unset] [(.int (6 : Int32)), (.int sx), (.long dx), (.long rx), (.long ((((((F1 rx dx sx (0 : Int32)) ||| (F1 rx dx sx (1 : Int32))) ||| (F1 rx dx sx (2 : Int32))) ||| (F1 rx dx sx (3 : Int32))) ||| (F1 rx dx sx (4 : Int32))) ||| (F1 rx dx sx (5 : Int32))))])) rfl (by rw [hml]; rfl) (argsL := [(.long rx), (.long dx), (.int sx), (.int (6 : Int32))]) (rest := [(.long ((((((F1 rx dx sx (0 : Int32)) ||| (F1 rx dx sx (1 : Int32))) ||| (F1 rx dx sx (2 : Int32))) ||| (F1 rx dx sx (3 : Int32))) ||| (F1 rx dx sx (4 : Int32))) ||| (F1 rx dx sx (5 : Int32))))]) (lenOf pd__28JJII_29J rfl) rfl (by show 2 * 0 + _ ≤ _; exact Nat.le_of_eq rfl) (hb hby at_59) (fun _ _ => ⟨rfl, rfl, (by decide : 0 + 0 ≤ _), (by decide : 0 + 0 ≤ _)⟩)
  dsimp only [Pt.U, Pt.locs, Pt.cells, Pt.slots] at X20 l20 y20 z20 st20 hQ20
  subst y20 z20
  obtain ⟨rfl, N20q, R20⟩ := hQ20
  have N20 : Fr n0 L20 := by rw [l20]; exact Fr.app N17 N20q
  replace R20 : Rep Z n0 T20.heap ([]) := R20
  have pre21 : ∀ t, Steps p.tables e below (T20.setTop (mkF m 62 #[.val (.long rx), .second, .val (.long dx), .second, .val (.int sx), .unset, .unset, .unset] [(.long (F1 rx dx sx (6 : Int32))), (.long ((((((F1 rx dx sx (0 : Int32)) ||| (F1 rx dx sx (1 : Int32))) ||| (F1 rx dx sx (2 : Int32))) ||| (F1 rx dx sx (3 : Int32))) ||| (F1 rx dx sx (4 : Int32))) ||| (F1 rx dx sx (5 : Int32))))])) t → Steps p.tables e below (s₁.setTop (entryFrame m #[(.long rx), (.long dx), (.int sx)] maxLocals)) t := fun t k => pre19 t (st20 t k)
  have pre22 : ∀ t, Steps p.tables e below (T20.setTop (mkF m 69 #[.val (.long rx), .second, .val (.long dx), .second, .val (.int sx), .unset, .unset, .unset] [(.int (7 : Int32)), (.int sx), (.long dx), (.long rx), (.long (((((((F1 rx dx sx (0 : Int32)) ||| (F1 rx dx sx (1 : Int32))) ||| (F1 rx dx sx (2 : Int32))) ||| (F1 rx dx sx (3 : Int32))) ||| (F1 rx dx sx (4 : Int32))) ||| (F1 rx dx sx (5 : Int32))) ||| (F1 rx dx sx (6 : Int32))))])) t → Steps p.tables e below (s₁.setTop (entryFrame m #[(.long rx), (.long dx), (.int sx)] maxLocals)) t := fun t k => pre21 t (by
    show Steps p.tables e below (T20.setTop (mkF m 62 #[.val (.long rx), .second, .val (.long dx), .second, .val (.int sx), .unset, .unset, .unset] [(.long (F1 rx dx sx (6 : Int32))), (.long ((((((F1 rx dx sx (0 : Int32)) ||| (F1 rx dx sx (1 : Int32))) ||| (F1 rx dx sx (2 : Int32))) ||| (F1 rx dx sx (3 : Int32))) ||| (F1 rx dx sx (4 : Int32))) ||| (F1 rx dx sx (5 : Int32))))])) _
    refine XS.lor X20.here hx rfl (hb hby at_62) rfl ?_
    refine XS.lloadN X20.here hx rfl (hb hby at_63) rfl ?_
    refine XS.lloadN X20.here hx rfl (hb hby at_64) rfl ?_
    refine XS.iload X20.here hx rfl (hb hby at_65) rfl ?_
    refine XS.bipush X20.here hx rfl (hb hby at_67) ?_
    exact k)
  obtain ⟨_, _, ⟨T23, L23, k23, n23⟩, -, X23, ⟨Lc23, hQ23, l23, y23, z23⟩, st23⟩ := Jvm.LawKit.callS X20 hx (y := (⟨"com/example/tidemark/tidemark/input/WordsAllDigitsPinLaw", "pick", "(JJII)J"⟩ : MethodName)) hown (mvT hZ (hw _ (List.mem_of_getElem? (i := 0) rfl))) (mvT hZ (hw _ (List.mem_of_getElem? (i := 1) rfl))) (mvT hZ (hw _ (List.mem_of_getElem? (i := 2) rfl))) (mvT hZ (hw _ (List.mem_of_getElem? (i := 3) rfl))) (by decide) (backOf (W := 2) (rm1 l Z a0 hw [] rx dx sx (7 : Int32)  T20.heap n0 _ R20 ) hZ (hw _ (List.mem_of_getElem? (i := 3) rfl)) (hw _ (List.mem_of_getElem? (i := 2) rfl)) (by decide) (by decide)) (g := (mkF m 69 #[.val (.long rx), .second, .val (.long dx), .second, .val (.int sx), .unset, .unset, .unset] [(.int (7 : Int32)), (.int sx), (.long dx), (.long rx), (.long (((((((F1 rx dx sx (0 : Int32)) ||| (F1 rx dx sx (1 : Int32))) ||| (F1 rx dx sx (2 : Int32))) ||| (F1 rx dx sx (3 : Int32))) ||| (F1 rx dx sx (4 : Int32))) ||| (F1 rx dx sx (5 : Int32))) ||| (F1 rx dx sx (6 : Int32))))])) rfl (by rw [hml]; rfl) (argsL := [(.long rx), (.long dx), (.int sx), (.int (7 : Int32))]) (rest := [(.long (((((((F1 rx dx sx (0 : Int32)) ||| (F1 rx dx sx (1 : Int32))) ||| (F1 rx dx sx (2 : Int32))) ||| (F1 rx dx sx (3 : Int32))) ||| (F1 rx dx sx (4 : Int32))) ||| (F1 rx dx sx (5 : Int32))) ||| (F1 rx dx sx (6 : Int32))))]) (lenOf pd__28JJII_29J rfl) rfl (by show 2 * 0 + _ ≤ _; exact Nat.le_of_eq rfl) (hb hby at_69) (fun _ _ => ⟨rfl, rfl, (by decide : 0 + 0 ≤ _), (by decide : 0 + 0 ≤ _)⟩)
  dsimp only [Pt.U, Pt.locs, Pt.cells, Pt.slots] at X23 l23 y23 z23 st23 hQ23
  subst y23 z23
  obtain ⟨rfl, N23q, R23⟩ := hQ23
  have N23 : Fr n0 L23 := by rw [l23]; exact Fr.app N20 N23q
  replace R23 : Rep Z n0 T23.heap ([]) := R23
  have pre24 : ∀ t, Steps p.tables e below (T23.setTop (mkF m 72 #[.val (.long rx), .second, .val (.long dx), .second, .val (.int sx), .unset, .unset, .unset] [(.long (F1 rx dx sx (7 : Int32))), (.long (((((((F1 rx dx sx (0 : Int32)) ||| (F1 rx dx sx (1 : Int32))) ||| (F1 rx dx sx (2 : Int32))) ||| (F1 rx dx sx (3 : Int32))) ||| (F1 rx dx sx (4 : Int32))) ||| (F1 rx dx sx (5 : Int32))) ||| (F1 rx dx sx (6 : Int32))))])) t → Steps p.tables e below (s₁.setTop (entryFrame m #[(.long rx), (.long dx), (.int sx)] maxLocals)) t := fun t k => pre22 t (st23 t k)
  have pre26 : ∀ t, Steps p.tables e below (T23.setTop (mkF m 75 #[.val (.long rx), .second, .val (.long dx), .second, .val (.int sx), .val (.long ((((((((F1 rx dx sx (0 : Int32)) ||| (F1 rx dx sx (1 : Int32))) ||| (F1 rx dx sx (2 : Int32))) ||| (F1 rx dx sx (3 : Int32))) ||| (F1 rx dx sx (4 : Int32))) ||| (F1 rx dx sx (5 : Int32))) ||| (F1 rx dx sx (6 : Int32))) ||| (F1 rx dx sx (7 : Int32)))), .second, .unset] [])) t → Steps p.tables e below (s₁.setTop (entryFrame m #[(.long rx), (.long dx), (.int sx)] maxLocals)) t := fun t k => pre24 t (by
    show Steps p.tables e below (T23.setTop (mkF m 72 #[.val (.long rx), .second, .val (.long dx), .second, .val (.int sx), .unset, .unset, .unset] [(.long (F1 rx dx sx (7 : Int32))), (.long (((((((F1 rx dx sx (0 : Int32)) ||| (F1 rx dx sx (1 : Int32))) ||| (F1 rx dx sx (2 : Int32))) ||| (F1 rx dx sx (3 : Int32))) ||| (F1 rx dx sx (4 : Int32))) ||| (F1 rx dx sx (5 : Int32))) ||| (F1 rx dx sx (6 : Int32))))])) _
    refine XS.lor X23.here hx rfl (hb hby at_72) rfl ?_
    refine XS.lstore X23.here hx rfl (hb hby at_73) rfl (l' := #[.val (.long rx), .second, .val (.long dx), .second, .val (.int sx), .val (.long ((((((((F1 rx dx sx (0 : Int32)) ||| (F1 rx dx sx (1 : Int32))) ||| (F1 rx dx sx (2 : Int32))) ||| (F1 rx dx sx (3 : Int32))) ||| (F1 rx dx sx (4 : Int32))) ||| (F1 rx dx sx (5 : Int32))) ||| (F1 rx dx sx (6 : Int32))) ||| (F1 rx dx sx (7 : Int32)))), .second, .unset]) rfl ?_
    exact k)
  obtain ⟨v25, hv25⟩ : ∃ z : Int64, z = ((((((((F1 rx dx sx (0 : Int32)) ||| (F1 rx dx sx (1 : Int32))) ||| (F1 rx dx sx (2 : Int32))) ||| (F1 rx dx sx (3 : Int32))) ||| (F1 rx dx sx (4 : Int32))) ||| (F1 rx dx sx (5 : Int32))) ||| (F1 rx dx sx (6 : Int32))) ||| (F1 rx dx sx (7 : Int32))) := ⟨_, rfl⟩
  rw [← hv25] at pre26
  have pre27 : ∀ t, Steps p.tables e below (T23.setTop (mkF m 78 #[.val (.long rx), .second, .val (.long dx), .second, .val (.int sx), .val (.long v25), .second, .unset] [(.int (0 : Int32)), (.long v25)])) t → Steps p.tables e below (s₁.setTop (entryFrame m #[(.long rx), (.long dx), (.int sx)] maxLocals)) t := fun t k => pre26 t (by
    show Steps p.tables e below (T23.setTop (mkF m 75 #[.val (.long rx), .second, .val (.long dx), .second, .val (.int sx), .val (.long v25), .second, .unset] [])) _
    refine XS.lload X23.here hx rfl (hb hby at_75) rfl ?_
    refine XS.iconst X23.here hx rfl (hb hby at_77) ?_
    exact k)
  obtain ⟨_, _, ⟨T28, L28, k28, n28⟩, -, X28, ⟨Lc28, hQ28, l28, y28, z28⟩, st28⟩ := Jvm.LawKit.callS X23 hx (y := (⟨"com/example/tidemark/tidemark/input/WordsAllDigitsPinLaw", "byteAt", "(JI)J"⟩ : MethodName)) hown (mvT hZ (hw _ (List.mem_of_getElem? (i := 5) rfl))) (mvT hZ (hw _ (List.mem_of_getElem? (i := 6) rfl))) (mvT hZ (hw _ (List.mem_of_getElem? (i := 2) rfl))) (mvT hZ (hw _ (List.mem_of_getElem? (i := 7) rfl))) (by decide) (backOf (W := 0) (rm2 l Z a0 hw [] v25 (0 : Int32)  T23.heap n0 _ R23 ) hZ (hw _ (List.mem_of_getElem? (i := 7) rfl)) (hw _ (List.mem_of_getElem? (i := 2) rfl)) (by decide) (by decide)) (g := (mkF m 78 #[.val (.long rx), .second, .val (.long dx), .second, .val (.int sx), .val (.long v25), .second, .unset] [(.int (0 : Int32)), (.long v25)])) rfl (by rw [hml]; rfl) (argsL := [(.long v25), (.int (0 : Int32))]) (rest := []) (lenOf pd__28JI_29J rfl) rfl (by show 2 * 0 + _ ≤ _; exact Nat.le_of_eq rfl) (hb hby at_78) (fun _ _ => ⟨rfl, rfl, (by decide : 0 + 0 ≤ _), (by decide : 0 + 0 ≤ _)⟩)
  dsimp only [Pt.U, Pt.locs, Pt.cells, Pt.slots] at X28 l28 y28 z28 st28 hQ28
  subst y28 z28
  obtain ⟨rfl, N28q, R28⟩ := hQ28
  have N28 : Fr n0 L28 := by rw [l28]; exact Fr.app N23 N28q
  replace R28 : Rep Z n0 T28.heap ([]) := R28
  have pre29 : ∀ t, Steps p.tables e below (T28.setTop (mkF m 81 #[.val (.long rx), .second, .val (.long dx), .second, .val (.int sx), .val (.long v25), .second, .unset] [(.long (F2 v25 (0 : Int32)))])) t → Steps p.tables e below (s₁.setTop (entryFrame m #[(.long rx), (.long dx), (.int sx)] maxLocals)) t := fun t k => pre27 t (st28 t k)
  obtain ⟨_, _, ⟨T30, L30, k30, n30⟩, -, X30, ⟨Lc30, hQ30, l30, y30, z30⟩, st30⟩ := Jvm.LawKit.callS X28 hx (y := (⟨"com/example/tidemark/tidemark/input/WordsAllDigitsPinLaw", "isDigit", "(J)Z"⟩ : MethodName)) hown (mvT hZ (hw _ (List.mem_of_getElem? (i := 10) rfl))) (mvT hZ (hw _ (List.mem_of_getElem? (i := 11) rfl))) (mvT hZ (hw _ (List.mem_of_getElem? (i := 2) rfl))) (mvT hZ (hw _ (List.mem_of_getElem? (i := 12) rfl))) (by decide) (backOf (W := 0) (rm3 l Z a0 hw [] (F2 v25 (0 : Int32))  T28.heap n0 _ R28 ) hZ (hw _ (List.mem_of_getElem? (i := 12) rfl)) (hw _ (List.mem_of_getElem? (i := 2) rfl)) (by decide) (by decide)) (g := (mkF m 81 #[.val (.long rx), .second, .val (.long dx), .second, .val (.int sx), .val (.long v25), .second, .unset] [(.long (F2 v25 (0 : Int32)))])) rfl (by rw [hml]; rfl) (argsL := [(.long (F2 v25 (0 : Int32)))]) (rest := []) (lenOf pd__28J_29Z rfl) rfl (by show 2 * 0 + _ ≤ _; exact Nat.le_of_eq rfl) (hb hby at_81) (fun _ _ => ⟨rfl, rfl, (by decide : 0 + 0 ≤ _), (by decide : 0 + 0 ≤ _)⟩)
  dsimp only [Pt.U, Pt.locs, Pt.cells, Pt.slots] at X30 l30 y30 z30 st30 hQ30
  subst y30 z30
  obtain ⟨rfl, N30q, R30⟩ := hQ30
  have N30 : Fr n0 L30 := by rw [l30]; exact Fr.app N28 N30q
  replace R30 : Rep Z n0 T30.heap ([]) := R30
  have pre31 : ∀ t, Steps p.tables e below (T30.setTop (mkF m 84 #[.val (.long rx), .second, .val (.long dx), .second, .val (.int sx), .val (.long v25), .second, .unset] [(.int (F3 (F2 v25 (0 : Int32))))])) t → Steps p.tables e below (s₁.setTop (entryFrame m #[(.long rx), (.long dx), (.int sx)] maxLocals)) t := fun t k => pre29 t (st30 t k)
  by_cases hb34 : (F3 (F2 v25 (0 : Int32))) = (0 : Int32)
  · have pre35 : ∀ t, Steps p.tables e below (T30.setTop (mkF m 177 #[.val (.long rx), .second, .val (.long dx), .second, .val (.int sx), .val (.long v25), .second, .unset] [])) t → Steps p.tables e below (s₁.setTop (entryFrame m #[(.long rx), (.long dx), (.int sx)] maxLocals)) t := fun t k => pre31 t (by show Steps p.tables e below (T30.setTop (mkF m 84 #[.val (.long rx), .second, .val (.long dx), .second, .val (.int sx), .val (.long v25), .second, .unset] [(.int (F3 (F2 v25 (0 : Int32))))])) _; refine XS.ifYes X30.here hx rfl (pc0 := 84) (pc' := 177) rfl (hb hby at_84) rfl ((if0 _ _).trans (teq hb34).1) (by decide) (by decide) ?_; exact k)
    have pre36 : ∀ t, Steps p.tables e below (T30.setTop (mkF m 182 #[.val (.long rx), .second, .val (.long dx), .second, .val (.int sx), .val (.long v25), .second, .val (.int (0 : Int32))] [(.long v25)])) t → Steps p.tables e below (s₁.setTop (entryFrame m #[(.long rx), (.long dx), (.int sx)] maxLocals)) t := fun t k => pre35 t (by
      show Steps p.tables e below (T30.setTop (mkF m 177 #[.val (.long rx), .second, .val (.long dx), .second, .val (.int sx), .val (.long v25), .second, .unset] [])) _
      refine XS.iconst X30.here hx rfl (hb hby at_177) ?_
      refine XS.istore X30.here hx rfl (hb hby at_178) rfl (l' := #[.val (.long rx), .second, .val (.long dx), .second, .val (.int sx), .val (.long v25), .second, .val (.int (0 : Int32))]) rfl ?_
      refine XS.lload X30.here hx rfl (hb hby at_180) rfl ?_
      exact k)
    obtain ⟨_, _, ⟨T37, L37, k37, n37⟩, -, X37, ⟨Lc37, hQ37, l37, y37, z37⟩, st37⟩ := Jvm.LawKit.callS X30 hx (y := (⟨"com/example/tidemark/tidemark/input/Words", "allDigits", "(J)Z"⟩ : MethodName)) hown (mvT hZ (hw _ (List.mem_of_getElem? (i := 14) rfl))) (mvT hZ (hw _ (List.mem_of_getElem? (i := 15) rfl))) (mvT hZ (hw _ (List.mem_of_getElem? (i := 16) rfl))) (mvT hZ (hw _ (List.mem_of_getElem? (i := 17) rfl))) (by decide) (backOf (W := 0) (rm4 l Z a0 hw [] v25  T30.heap n0 _ R30 ) hZ (hw _ (List.mem_of_getElem? (i := 17) rfl)) (hw _ (List.mem_of_getElem? (i := 16) rfl)) (by decide) (by decide)) (g := (mkF m 182 #[.val (.long rx), .second, .val (.long dx), .second, .val (.int sx), .val (.long v25), .second, .val (.int (0 : Int32))] [(.long v25)])) rfl (by rw [hml]; rfl) (argsL := [(.long v25)]) (rest := []) (lenOf pd__28J_29Z rfl) rfl (by show 2 * 0 + _ ≤ _; exact Nat.le_of_eq rfl) (hb hby at_182) (fun _ _ => ⟨rfl, rfl, (by decide : 0 + 0 ≤ _), (by decide : 0 + 0 ≤ _)⟩)
    dsimp only [Pt.U, Pt.locs, Pt.cells, Pt.slots] at X37 l37 y37 z37 st37 hQ37
    subst y37 z37
    obtain ⟨rfl, N37q, R37⟩ := hQ37
    have N37 : Fr n0 L37 := by rw [l37]; exact Fr.app N30 N37q
    replace R37 : Rep Z n0 T37.heap ([]) := R37
    have pre38 : ∀ t, Steps p.tables e below (T37.setTop (mkF m 185 #[.val (.long rx), .second, .val (.long dx), .second, .val (.int sx), .val (.long v25), .second, .val (.int (0 : Int32))] [(.int (F4 v25))])) t → Steps p.tables e below (s₁.setTop (entryFrame m #[(.long rx), (.long dx), (.int sx)] maxLocals)) t := fun t k => pre36 t (st37 t k)
    have pre41 : ∀ t, Steps p.tables e below (T37.setTop (mkF m 187 #[.val (.long rx), .second, .val (.long dx), .second, .val (.int sx), .val (.long v25), .second, .val (.int (0 : Int32))] [(.int (0 : Int32)), (.int (F4 v25))])) t → Steps p.tables e below (s₁.setTop (entryFrame m #[(.long rx), (.long dx), (.int sx)] maxLocals)) t := fun t k => pre38 t (by
      show Steps p.tables e below (T37.setTop (mkF m 185 #[.val (.long rx), .second, .val (.long dx), .second, .val (.int sx), .val (.long v25), .second, .val (.int (0 : Int32))] [(.int (F4 v25))])) _
      refine XS.iload X37.here hx rfl (hb hby at_185) rfl ?_
      exact k)
    have tl40 : ∀ t, Steps p.tables e below (T37.setTop (mkF m 195 #[.val (.long rx), .second, .val (.long dx), .second, .val (.int sx), .val (.long v25), .second, .val (.int (0 : Int32))] [(.int (bz ((F4 v25) = (0 : Int32))))])) t → Steps p.tables e below (T37.setTop (mkF m 187 #[.val (.long rx), .second, .val (.long dx), .second, .val (.int sx), .val (.long v25), .second, .val (.int (0 : Int32))] [(.int (0 : Int32)), (.int (F4 v25))])) t := fun t k => by
      by_cases hb39 : (F4 v25) = (0 : Int32)
      · refine XS.icmpNo X37.here hx rfl (hb hby at_187) rfl (teq hb39).2 ?_
        rw [bz_one (P := ((F4 v25) = (0 : Int32))) (iff_true_intro hb39)] at k
        show Steps p.tables e below (T37.setTop (mkF m 190 #[.val (.long rx), .second, .val (.long dx), .second, .val (.int sx), .val (.long v25), .second, .val (.int (0 : Int32))] [])) _
        refine XS.iconst X37.here hx rfl (hb hby at_190) ?_
        refine XS.goto X37.here hx rfl (pc0 := 191) (pc' := 195) rfl (hb hby at_191) (by decide) (by decide) ?_
        exact k
      · refine XS.icmpYes X37.here hx rfl (pc0 := 187) (pc' := 194) rfl (hb hby at_187) rfl (feq hb39).2 (by decide) (by decide) ?_
        rw [bz_zero (P := ((F4 v25) = (0 : Int32))) (iff_false_intro hb39)] at k
        show Steps p.tables e below (T37.setTop (mkF m 194 #[.val (.long rx), .second, .val (.long dx), .second, .val (.int sx), .val (.long v25), .second, .val (.int (0 : Int32))] [])) _
        refine XS.iconst X37.here hx rfl (hb hby at_194) ?_
        exact k
    have pre42 : ∀ t, Steps p.tables e below (T37.setTop (mkF m 195 #[.val (.long rx), .second, .val (.long dx), .second, .val (.int sx), .val (.long v25), .second, .val (.int (0 : Int32))] [(.int (bz ((F4 v25) = (0 : Int32))))])) t → Steps p.tables e below (s₁.setTop (entryFrame m #[(.long rx), (.long dx), (.int sx)] maxLocals)) t := fun t k => pre41 t (by
      exact tl40 t k)
    obtain ⟨fs, hr, hrun, hended, hW, hsame⟩ := X37.leave (v := some (.int (nar .boolean (bz ((F4 v25) = (0 : Int32)))))) (fun h => by rw [Bd.returns] at h; cases h)
    refine ⟨_, _, pre42 _ ?_, hrun, hended, _, _, rfl, ?_, ⟨_, rfl⟩, hW, hsame.mono (by decide) (by decide)⟩
    · show Steps p.tables e below (T37.setTop (mkF m 195 #[.val (.long rx), .second, .val (.long dx), .second, .val (.int sx), .val (.long v25), .second, .val (.int (0 : Int32))] [(.int (bz ((F4 v25) = (0 : Int32))))])) _
      exact retN X37 hx (t := .boolean) Bd.returns (by simp) (hb hby at_195) hr
    · show Q0 Z rx dx sx n0 [] _ T37.heap _
      exact ⟨(by exact ow_fin (own_no _ _ 0 (by decide) (by rfl) hb34)), N37, R37⟩
  · have pre43 : ∀ t, Steps p.tables e below (T30.setTop (mkF m 87 #[.val (.long rx), .second, .val (.long dx), .second, .val (.int sx), .val (.long v25), .second, .unset] [])) t → Steps p.tables e below (s₁.setTop (entryFrame m #[(.long rx), (.long dx), (.int sx)] maxLocals)) t := fun t k => pre31 t (by show Steps p.tables e below (T30.setTop (mkF m 84 #[.val (.long rx), .second, .val (.long dx), .second, .val (.int sx), .val (.long v25), .second, .unset] [(.int (F3 (F2 v25 (0 : Int32))))])) _; refine XS.ifNo X30.here hx rfl (hb hby at_84) rfl ((if0 _ _).trans (feq hb34).1) ?_; exact k)
    have pre44 : ∀ t, Steps p.tables e below (T30.setTop (mkF m 90 #[.val (.long rx), .second, .val (.long dx), .second, .val (.int sx), .val (.long v25), .second, .unset] [(.int (1 : Int32)), (.long v25)])) t → Steps p.tables e below (s₁.setTop (entryFrame m #[(.long rx), (.long dx), (.int sx)] maxLocals)) t := fun t k => pre43 t (by
      show Steps p.tables e below (T30.setTop (mkF m 87 #[.val (.long rx), .second, .val (.long dx), .second, .val (.int sx), .val (.long v25), .second, .unset] [])) _
      refine XS.lload X30.here hx rfl (hb hby at_87) rfl ?_
      refine XS.iconst X30.here hx rfl (hb hby at_89) ?_
      exact k)
    obtain ⟨_, _, ⟨T45, L45, k45, n45⟩, -, X45, ⟨Lc45, hQ45, l45, y45, z45⟩, st45⟩ := Jvm.LawKit.callS X30 hx (y := (⟨"com/example/tidemark/tidemark/input/WordsAllDigitsPinLaw", "byteAt", "(JI)J"⟩ : MethodName)) hown (mvT hZ (hw _ (List.mem_of_getElem? (i := 5) rfl))) (mvT hZ (hw _ (List.mem_of_getElem? (i := 6) rfl))) (mvT hZ (hw _ (List.mem_of_getElem? (i := 2) rfl))) (mvT hZ (hw _ (List.mem_of_getElem? (i := 7) rfl))) (by decide) (backOf (W := 0) (rm2 l Z a0 hw [] v25 (1 : Int32)  T30.heap n0 _ R30 ) hZ (hw _ (List.mem_of_getElem? (i := 7) rfl)) (hw _ (List.mem_of_getElem? (i := 2) rfl)) (by decide) (by decide)) (g := (mkF m 90 #[.val (.long rx), .second, .val (.long dx), .second, .val (.int sx), .val (.long v25), .second, .unset] [(.int (1 : Int32)), (.long v25)])) rfl (by rw [hml]; rfl) (argsL := [(.long v25), (.int (1 : Int32))]) (rest := []) (lenOf pd__28JI_29J rfl) rfl (by show 2 * 0 + _ ≤ _; exact Nat.le_of_eq rfl) (hb hby at_90) (fun _ _ => ⟨rfl, rfl, (by decide : 0 + 0 ≤ _), (by decide : 0 + 0 ≤ _)⟩)
    dsimp only [Pt.U, Pt.locs, Pt.cells, Pt.slots] at X45 l45 y45 z45 st45 hQ45
    subst y45 z45
    obtain ⟨rfl, N45q, R45⟩ := hQ45
    have N45 : Fr n0 L45 := by rw [l45]; exact Fr.app N30 N45q
    replace R45 : Rep Z n0 T45.heap ([]) := R45
    have pre46 : ∀ t, Steps p.tables e below (T45.setTop (mkF m 93 #[.val (.long rx), .second, .val (.long dx), .second, .val (.int sx), .val (.long v25), .second, .unset] [(.long (F2 v25 (1 : Int32)))])) t → Steps p.tables e below (s₁.setTop (entryFrame m #[(.long rx), (.long dx), (.int sx)] maxLocals)) t := fun t k => pre44 t (st45 t k)
    obtain ⟨_, _, ⟨T47, L47, k47, n47⟩, -, X47, ⟨Lc47, hQ47, l47, y47, z47⟩, st47⟩ := Jvm.LawKit.callS X45 hx (y := (⟨"com/example/tidemark/tidemark/input/WordsAllDigitsPinLaw", "isDigit", "(J)Z"⟩ : MethodName)) hown (mvT hZ (hw _ (List.mem_of_getElem? (i := 10) rfl))) (mvT hZ (hw _ (List.mem_of_getElem? (i := 11) rfl))) (mvT hZ (hw _ (List.mem_of_getElem? (i := 2) rfl))) (mvT hZ (hw _ (List.mem_of_getElem? (i := 12) rfl))) (by decide) (backOf (W := 0) (rm3 l Z a0 hw [] (F2 v25 (1 : Int32))  T45.heap n0 _ R45 ) hZ (hw _ (List.mem_of_getElem? (i := 12) rfl)) (hw _ (List.mem_of_getElem? (i := 2) rfl)) (by decide) (by decide)) (g := (mkF m 93 #[.val (.long rx), .second, .val (.long dx), .second, .val (.int sx), .val (.long v25), .second, .unset] [(.long (F2 v25 (1 : Int32)))])) rfl (by rw [hml]; rfl) (argsL := [(.long (F2 v25 (1 : Int32)))]) (rest := []) (lenOf pd__28J_29Z rfl) rfl (by show 2 * 0 + _ ≤ _; exact Nat.le_of_eq rfl) (hb hby at_93) (fun _ _ => ⟨rfl, rfl, (by decide : 0 + 0 ≤ _), (by decide : 0 + 0 ≤ _)⟩)
    dsimp only [Pt.U, Pt.locs, Pt.cells, Pt.slots] at X47 l47 y47 z47 st47 hQ47
    subst y47 z47
    obtain ⟨rfl, N47q, R47⟩ := hQ47
    have N47 : Fr n0 L47 := by rw [l47]; exact Fr.app N45 N47q
    replace R47 : Rep Z n0 T47.heap ([]) := R47
    have pre48 : ∀ t, Steps p.tables e below (T47.setTop (mkF m 96 #[.val (.long rx), .second, .val (.long dx), .second, .val (.int sx), .val (.long v25), .second, .unset] [(.int (F3 (F2 v25 (1 : Int32))))])) t → Steps p.tables e below (s₁.setTop (entryFrame m #[(.long rx), (.long dx), (.int sx)] maxLocals)) t := fun t k => pre46 t (st47 t k)
    by_cases hb51 : (F3 (F2 v25 (1 : Int32))) = (0 : Int32)
    · have pre52 : ∀ t, Steps p.tables e below (T47.setTop (mkF m 177 #[.val (.long rx), .second, .val (.long dx), .second, .val (.int sx), .val (.long v25), .second, .unset] [])) t → Steps p.tables e below (s₁.setTop (entryFrame m #[(.long rx), (.long dx), (.int sx)] maxLocals)) t := fun t k => pre48 t (by show Steps p.tables e below (T47.setTop (mkF m 96 #[.val (.long rx), .second, .val (.long dx), .second, .val (.int sx), .val (.long v25), .second, .unset] [(.int (F3 (F2 v25 (1 : Int32))))])) _; refine XS.ifYes X47.here hx rfl (pc0 := 96) (pc' := 177) rfl (hb hby at_96) rfl ((if0 _ _).trans (teq hb51).1) (by decide) (by decide) ?_; exact k)
      have pre53 : ∀ t, Steps p.tables e below (T47.setTop (mkF m 182 #[.val (.long rx), .second, .val (.long dx), .second, .val (.int sx), .val (.long v25), .second, .val (.int (0 : Int32))] [(.long v25)])) t → Steps p.tables e below (s₁.setTop (entryFrame m #[(.long rx), (.long dx), (.int sx)] maxLocals)) t := fun t k => pre52 t (by
        show Steps p.tables e below (T47.setTop (mkF m 177 #[.val (.long rx), .second, .val (.long dx), .second, .val (.int sx), .val (.long v25), .second, .unset] [])) _
        refine XS.iconst X47.here hx rfl (hb hby at_177) ?_
        refine XS.istore X47.here hx rfl (hb hby at_178) rfl (l' := #[.val (.long rx), .second, .val (.long dx), .second, .val (.int sx), .val (.long v25), .second, .val (.int (0 : Int32))]) rfl ?_
        refine XS.lload X47.here hx rfl (hb hby at_180) rfl ?_
        exact k)
      obtain ⟨_, _, ⟨T54, L54, k54, n54⟩, -, X54, ⟨Lc54, hQ54, l54, y54, z54⟩, st54⟩ := Jvm.LawKit.callS X47 hx (y := (⟨"com/example/tidemark/tidemark/input/Words", "allDigits", "(J)Z"⟩ : MethodName)) hown (mvT hZ (hw _ (List.mem_of_getElem? (i := 14) rfl))) (mvT hZ (hw _ (List.mem_of_getElem? (i := 15) rfl))) (mvT hZ (hw _ (List.mem_of_getElem? (i := 16) rfl))) (mvT hZ (hw _ (List.mem_of_getElem? (i := 17) rfl))) (by decide) (backOf (W := 0) (rm4 l Z a0 hw [] v25  T47.heap n0 _ R47 ) hZ (hw _ (List.mem_of_getElem? (i := 17) rfl)) (hw _ (List.mem_of_getElem? (i := 16) rfl)) (by decide) (by decide)) (g := (mkF m 182 #[.val (.long rx), .second, .val (.long dx), .second, .val (.int sx), .val (.long v25), .second, .val (.int (0 : Int32))] [(.long v25)])) rfl (by rw [hml]; rfl) (argsL := [(.long v25)]) (rest := []) (lenOf pd__28J_29Z rfl) rfl (by show 2 * 0 + _ ≤ _; exact Nat.le_of_eq rfl) (hb hby at_182) (fun _ _ => ⟨rfl, rfl, (by decide : 0 + 0 ≤ _), (by decide : 0 + 0 ≤ _)⟩)
      dsimp only [Pt.U, Pt.locs, Pt.cells, Pt.slots] at X54 l54 y54 z54 st54 hQ54
      subst y54 z54
      obtain ⟨rfl, N54q, R54⟩ := hQ54
      have N54 : Fr n0 L54 := by rw [l54]; exact Fr.app N47 N54q
      replace R54 : Rep Z n0 T54.heap ([]) := R54
      have pre55 : ∀ t, Steps p.tables e below (T54.setTop (mkF m 185 #[.val (.long rx), .second, .val (.long dx), .second, .val (.int sx), .val (.long v25), .second, .val (.int (0 : Int32))] [(.int (F4 v25))])) t → Steps p.tables e below (s₁.setTop (entryFrame m #[(.long rx), (.long dx), (.int sx)] maxLocals)) t := fun t k => pre53 t (st54 t k)
      have pre58 : ∀ t, Steps p.tables e below (T54.setTop (mkF m 187 #[.val (.long rx), .second, .val (.long dx), .second, .val (.int sx), .val (.long v25), .second, .val (.int (0 : Int32))] [(.int (0 : Int32)), (.int (F4 v25))])) t → Steps p.tables e below (s₁.setTop (entryFrame m #[(.long rx), (.long dx), (.int sx)] maxLocals)) t := fun t k => pre55 t (by
        show Steps p.tables e below (T54.setTop (mkF m 185 #[.val (.long rx), .second, .val (.long dx), .second, .val (.int sx), .val (.long v25), .second, .val (.int (0 : Int32))] [(.int (F4 v25))])) _
        refine XS.iload X54.here hx rfl (hb hby at_185) rfl ?_
        exact k)
      have tl57 : ∀ t, Steps p.tables e below (T54.setTop (mkF m 195 #[.val (.long rx), .second, .val (.long dx), .second, .val (.int sx), .val (.long v25), .second, .val (.int (0 : Int32))] [(.int (bz ((F4 v25) = (0 : Int32))))])) t → Steps p.tables e below (T54.setTop (mkF m 187 #[.val (.long rx), .second, .val (.long dx), .second, .val (.int sx), .val (.long v25), .second, .val (.int (0 : Int32))] [(.int (0 : Int32)), (.int (F4 v25))])) t := fun t k => by
        by_cases hb56 : (F4 v25) = (0 : Int32)
        · refine XS.icmpNo X54.here hx rfl (hb hby at_187) rfl (teq hb56).2 ?_
          rw [bz_one (P := ((F4 v25) = (0 : Int32))) (iff_true_intro hb56)] at k
          show Steps p.tables e below (T54.setTop (mkF m 190 #[.val (.long rx), .second, .val (.long dx), .second, .val (.int sx), .val (.long v25), .second, .val (.int (0 : Int32))] [])) _
          refine XS.iconst X54.here hx rfl (hb hby at_190) ?_
          refine XS.goto X54.here hx rfl (pc0 := 191) (pc' := 195) rfl (hb hby at_191) (by decide) (by decide) ?_
          exact k
        · refine XS.icmpYes X54.here hx rfl (pc0 := 187) (pc' := 194) rfl (hb hby at_187) rfl (feq hb56).2 (by decide) (by decide) ?_
          rw [bz_zero (P := ((F4 v25) = (0 : Int32))) (iff_false_intro hb56)] at k
          show Steps p.tables e below (T54.setTop (mkF m 194 #[.val (.long rx), .second, .val (.long dx), .second, .val (.int sx), .val (.long v25), .second, .val (.int (0 : Int32))] [])) _
          refine XS.iconst X54.here hx rfl (hb hby at_194) ?_
          exact k
      have pre59 : ∀ t, Steps p.tables e below (T54.setTop (mkF m 195 #[.val (.long rx), .second, .val (.long dx), .second, .val (.int sx), .val (.long v25), .second, .val (.int (0 : Int32))] [(.int (bz ((F4 v25) = (0 : Int32))))])) t → Steps p.tables e below (s₁.setTop (entryFrame m #[(.long rx), (.long dx), (.int sx)] maxLocals)) t := fun t k => pre58 t (by
        exact tl57 t k)
      obtain ⟨fs, hr, hrun, hended, hW, hsame⟩ := X54.leave (v := some (.int (nar .boolean (bz ((F4 v25) = (0 : Int32)))))) (fun h => by rw [Bd.returns] at h; cases h)
      refine ⟨_, _, pre59 _ ?_, hrun, hended, _, _, rfl, ?_, ⟨_, rfl⟩, hW, hsame.mono (by decide) (by decide)⟩
      · show Steps p.tables e below (T54.setTop (mkF m 195 #[.val (.long rx), .second, .val (.long dx), .second, .val (.int sx), .val (.long v25), .second, .val (.int (0 : Int32))] [(.int (bz ((F4 v25) = (0 : Int32))))])) _
        exact retN X54 hx (t := .boolean) Bd.returns (by simp) (hb hby at_195) hr
      · show Q0 Z rx dx sx n0 [] _ T54.heap _
        exact ⟨(by exact ow_fin (own_no _ _ 1 (by decide) (by rfl) hb51)), N54, R54⟩
    · have pre60 : ∀ t, Steps p.tables e below (T47.setTop (mkF m 99 #[.val (.long rx), .second, .val (.long dx), .second, .val (.int sx), .val (.long v25), .second, .unset] [])) t → Steps p.tables e below (s₁.setTop (entryFrame m #[(.long rx), (.long dx), (.int sx)] maxLocals)) t := fun t k => pre48 t (by show Steps p.tables e below (T47.setTop (mkF m 96 #[.val (.long rx), .second, .val (.long dx), .second, .val (.int sx), .val (.long v25), .second, .unset] [(.int (F3 (F2 v25 (1 : Int32))))])) _; refine XS.ifNo X47.here hx rfl (hb hby at_96) rfl ((if0 _ _).trans (feq hb51).1) ?_; exact k)
      have pre61 : ∀ t, Steps p.tables e below (T47.setTop (mkF m 102 #[.val (.long rx), .second, .val (.long dx), .second, .val (.int sx), .val (.long v25), .second, .unset] [(.int (2 : Int32)), (.long v25)])) t → Steps p.tables e below (s₁.setTop (entryFrame m #[(.long rx), (.long dx), (.int sx)] maxLocals)) t := fun t k => pre60 t (by
        show Steps p.tables e below (T47.setTop (mkF m 99 #[.val (.long rx), .second, .val (.long dx), .second, .val (.int sx), .val (.long v25), .second, .unset] [])) _
        refine XS.lload X47.here hx rfl (hb hby at_99) rfl ?_
        refine XS.iconst X47.here hx rfl (hb hby at_101) ?_
        exact k)
      obtain ⟨_, _, ⟨T62, L62, k62, n62⟩, -, X62, ⟨Lc62, hQ62, l62, y62, z62⟩, st62⟩ := Jvm.LawKit.callS X47 hx (y := (⟨"com/example/tidemark/tidemark/input/WordsAllDigitsPinLaw", "byteAt", "(JI)J"⟩ : MethodName)) hown (mvT hZ (hw _ (List.mem_of_getElem? (i := 5) rfl))) (mvT hZ (hw _ (List.mem_of_getElem? (i := 6) rfl))) (mvT hZ (hw _ (List.mem_of_getElem? (i := 2) rfl))) (mvT hZ (hw _ (List.mem_of_getElem? (i := 7) rfl))) (by decide) (backOf (W := 0) (rm2 l Z a0 hw [] v25 (2 : Int32)  T47.heap n0 _ R47 ) hZ (hw _ (List.mem_of_getElem? (i := 7) rfl)) (hw _ (List.mem_of_getElem? (i := 2) rfl)) (by decide) (by decide)) (g := (mkF m 102 #[.val (.long rx), .second, .val (.long dx), .second, .val (.int sx), .val (.long v25), .second, .unset] [(.int (2 : Int32)), (.long v25)])) rfl (by rw [hml]; rfl) (argsL := [(.long v25), (.int (2 : Int32))]) (rest := []) (lenOf pd__28JI_29J rfl) rfl (by show 2 * 0 + _ ≤ _; exact Nat.le_of_eq rfl) (hb hby at_102) (fun _ _ => ⟨rfl, rfl, (by decide : 0 + 0 ≤ _), (by decide : 0 + 0 ≤ _)⟩)
      dsimp only [Pt.U, Pt.locs, Pt.cells, Pt.slots] at X62 l62 y62 z62 st62 hQ62
      subst y62 z62
      obtain ⟨rfl, N62q, R62⟩ := hQ62
      have N62 : Fr n0 L62 := by rw [l62]; exact Fr.app N47 N62q
      replace R62 : Rep Z n0 T62.heap ([]) := R62
      have pre63 : ∀ t, Steps p.tables e below (T62.setTop (mkF m 105 #[.val (.long rx), .second, .val (.long dx), .second, .val (.int sx), .val (.long v25), .second, .unset] [(.long (F2 v25 (2 : Int32)))])) t → Steps p.tables e below (s₁.setTop (entryFrame m #[(.long rx), (.long dx), (.int sx)] maxLocals)) t := fun t k => pre61 t (st62 t k)
      obtain ⟨_, _, ⟨T64, L64, k64, n64⟩, -, X64, ⟨Lc64, hQ64, l64, y64, z64⟩, st64⟩ := Jvm.LawKit.callS X62 hx (y := (⟨"com/example/tidemark/tidemark/input/WordsAllDigitsPinLaw", "isDigit", "(J)Z"⟩ : MethodName)) hown (mvT hZ (hw _ (List.mem_of_getElem? (i := 10) rfl))) (mvT hZ (hw _ (List.mem_of_getElem? (i := 11) rfl))) (mvT hZ (hw _ (List.mem_of_getElem? (i := 2) rfl))) (mvT hZ (hw _ (List.mem_of_getElem? (i := 12) rfl))) (by decide) (backOf (W := 0) (rm3 l Z a0 hw [] (F2 v25 (2 : Int32))  T62.heap n0 _ R62 ) hZ (hw _ (List.mem_of_getElem? (i := 12) rfl)) (hw _ (List.mem_of_getElem? (i := 2) rfl)) (by decide) (by decide)) (g := (mkF m 105 #[.val (.long rx), .second, .val (.long dx), .second, .val (.int sx), .val (.long v25), .second, .unset] [(.long (F2 v25 (2 : Int32)))])) rfl (by rw [hml]; rfl) (argsL := [(.long (F2 v25 (2 : Int32)))]) (rest := []) (lenOf pd__28J_29Z rfl) rfl (by show 2 * 0 + _ ≤ _; exact Nat.le_of_eq rfl) (hb hby at_105) (fun _ _ => ⟨rfl, rfl, (by decide : 0 + 0 ≤ _), (by decide : 0 + 0 ≤ _)⟩)
      dsimp only [Pt.U, Pt.locs, Pt.cells, Pt.slots] at X64 l64 y64 z64 st64 hQ64
      subst y64 z64
      obtain ⟨rfl, N64q, R64⟩ := hQ64
      have N64 : Fr n0 L64 := by rw [l64]; exact Fr.app N62 N64q
      replace R64 : Rep Z n0 T64.heap ([]) := R64
      have pre65 : ∀ t, Steps p.tables e below (T64.setTop (mkF m 108 #[.val (.long rx), .second, .val (.long dx), .second, .val (.int sx), .val (.long v25), .second, .unset] [(.int (F3 (F2 v25 (2 : Int32))))])) t → Steps p.tables e below (s₁.setTop (entryFrame m #[(.long rx), (.long dx), (.int sx)] maxLocals)) t := fun t k => pre63 t (st64 t k)
      by_cases hb68 : (F3 (F2 v25 (2 : Int32))) = (0 : Int32)
      · have pre69 : ∀ t, Steps p.tables e below (T64.setTop (mkF m 177 #[.val (.long rx), .second, .val (.long dx), .second, .val (.int sx), .val (.long v25), .second, .unset] [])) t → Steps p.tables e below (s₁.setTop (entryFrame m #[(.long rx), (.long dx), (.int sx)] maxLocals)) t := fun t k => pre65 t (by show Steps p.tables e below (T64.setTop (mkF m 108 #[.val (.long rx), .second, .val (.long dx), .second, .val (.int sx), .val (.long v25), .second, .unset] [(.int (F3 (F2 v25 (2 : Int32))))])) _; refine XS.ifYes X64.here hx rfl (pc0 := 108) (pc' := 177) rfl (hb hby at_108) rfl ((if0 _ _).trans (teq hb68).1) (by decide) (by decide) ?_; exact k)
        have pre70 : ∀ t, Steps p.tables e below (T64.setTop (mkF m 182 #[.val (.long rx), .second, .val (.long dx), .second, .val (.int sx), .val (.long v25), .second, .val (.int (0 : Int32))] [(.long v25)])) t → Steps p.tables e below (s₁.setTop (entryFrame m #[(.long rx), (.long dx), (.int sx)] maxLocals)) t := fun t k => pre69 t (by
          show Steps p.tables e below (T64.setTop (mkF m 177 #[.val (.long rx), .second, .val (.long dx), .second, .val (.int sx), .val (.long v25), .second, .unset] [])) _
          refine XS.iconst X64.here hx rfl (hb hby at_177) ?_
          refine XS.istore X64.here hx rfl (hb hby at_178) rfl (l' := #[.val (.long rx), .second, .val (.long dx), .second, .val (.int sx), .val (.long v25), .second, .val (.int (0 : Int32))]) rfl ?_
          refine XS.lload X64.here hx rfl (hb hby at_180) rfl ?_
          exact k)
        obtain ⟨_, _, ⟨T71, L71, k71, n71⟩, -, X71, ⟨Lc71, hQ71, l71, y71, z71⟩, st71⟩ := Jvm.LawKit.callS X64 hx (y := (⟨"com/example/tidemark/tidemark/input/Words", "allDigits", "(J)Z"⟩ : MethodName)) hown (mvT hZ (hw _ (List.mem_of_getElem? (i := 14) rfl))) (mvT hZ (hw _ (List.mem_of_getElem? (i := 15) rfl))) (mvT hZ (hw _ (List.mem_of_getElem? (i := 16) rfl))) (mvT hZ (hw _ (List.mem_of_getElem? (i := 17) rfl))) (by decide) (backOf (W := 0) (rm4 l Z a0 hw [] v25  T64.heap n0 _ R64 ) hZ (hw _ (List.mem_of_getElem? (i := 17) rfl)) (hw _ (List.mem_of_getElem? (i := 16) rfl)) (by decide) (by decide)) (g := (mkF m 182 #[.val (.long rx), .second, .val (.long dx), .second, .val (.int sx), .val (.long v25), .second, .val (.int (0 : Int32))] [(.long v25)])) rfl (by rw [hml]; rfl) (argsL := [(.long v25)]) (rest := []) (lenOf pd__28J_29Z rfl) rfl (by show 2 * 0 + _ ≤ _; exact Nat.le_of_eq rfl) (hb hby at_182) (fun _ _ => ⟨rfl, rfl, (by decide : 0 + 0 ≤ _), (by decide : 0 + 0 ≤ _)⟩)
        dsimp only [Pt.U, Pt.locs, Pt.cells, Pt.slots] at X71 l71 y71 z71 st71 hQ71
        subst y71 z71
        obtain ⟨rfl, N71q, R71⟩ := hQ71
        have N71 : Fr n0 L71 := by rw [l71]; exact Fr.app N64 N71q
        replace R71 : Rep Z n0 T71.heap ([]) := R71
        have pre72 : ∀ t, Steps p.tables e below (T71.setTop (mkF m 185 #[.val (.long rx), .second, .val (.long dx), .second, .val (.int sx), .val (.long v25), .second, .val (.int (0 : Int32))] [(.int (F4 v25))])) t → Steps p.tables e below (s₁.setTop (entryFrame m #[(.long rx), (.long dx), (.int sx)] maxLocals)) t := fun t k => pre70 t (st71 t k)
        have pre75 : ∀ t, Steps p.tables e below (T71.setTop (mkF m 187 #[.val (.long rx), .second, .val (.long dx), .second, .val (.int sx), .val (.long v25), .second, .val (.int (0 : Int32))] [(.int (0 : Int32)), (.int (F4 v25))])) t → Steps p.tables e below (s₁.setTop (entryFrame m #[(.long rx), (.long dx), (.int sx)] maxLocals)) t := fun t k => pre72 t (by
          show Steps p.tables e below (T71.setTop (mkF m 185 #[.val (.long rx), .second, .val (.long dx), .second, .val (.int sx), .val (.long v25), .second, .val (.int (0 : Int32))] [(.int (F4 v25))])) _
          refine XS.iload X71.here hx rfl (hb hby at_185) rfl ?_
          exact k)
        have tl74 : ∀ t, Steps p.tables e below (T71.setTop (mkF m 195 #[.val (.long rx), .second, .val (.long dx), .second, .val (.int sx), .val (.long v25), .second, .val (.int (0 : Int32))] [(.int (bz ((F4 v25) = (0 : Int32))))])) t → Steps p.tables e below (T71.setTop (mkF m 187 #[.val (.long rx), .second, .val (.long dx), .second, .val (.int sx), .val (.long v25), .second, .val (.int (0 : Int32))] [(.int (0 : Int32)), (.int (F4 v25))])) t := fun t k => by
          by_cases hb73 : (F4 v25) = (0 : Int32)
          · refine XS.icmpNo X71.here hx rfl (hb hby at_187) rfl (teq hb73).2 ?_
            rw [bz_one (P := ((F4 v25) = (0 : Int32))) (iff_true_intro hb73)] at k
            show Steps p.tables e below (T71.setTop (mkF m 190 #[.val (.long rx), .second, .val (.long dx), .second, .val (.int sx), .val (.long v25), .second, .val (.int (0 : Int32))] [])) _
            refine XS.iconst X71.here hx rfl (hb hby at_190) ?_
            refine XS.goto X71.here hx rfl (pc0 := 191) (pc' := 195) rfl (hb hby at_191) (by decide) (by decide) ?_
            exact k
          · refine XS.icmpYes X71.here hx rfl (pc0 := 187) (pc' := 194) rfl (hb hby at_187) rfl (feq hb73).2 (by decide) (by decide) ?_
            rw [bz_zero (P := ((F4 v25) = (0 : Int32))) (iff_false_intro hb73)] at k
            show Steps p.tables e below (T71.setTop (mkF m 194 #[.val (.long rx), .second, .val (.long dx), .second, .val (.int sx), .val (.long v25), .second, .val (.int (0 : Int32))] [])) _
            refine XS.iconst X71.here hx rfl (hb hby at_194) ?_
            exact k
        have pre76 : ∀ t, Steps p.tables e below (T71.setTop (mkF m 195 #[.val (.long rx), .second, .val (.long dx), .second, .val (.int sx), .val (.long v25), .second, .val (.int (0 : Int32))] [(.int (bz ((F4 v25) = (0 : Int32))))])) t → Steps p.tables e below (s₁.setTop (entryFrame m #[(.long rx), (.long dx), (.int sx)] maxLocals)) t := fun t k => pre75 t (by
          exact tl74 t k)
        obtain ⟨fs, hr, hrun, hended, hW, hsame⟩ := X71.leave (v := some (.int (nar .boolean (bz ((F4 v25) = (0 : Int32)))))) (fun h => by rw [Bd.returns] at h; cases h)
        refine ⟨_, _, pre76 _ ?_, hrun, hended, _, _, rfl, ?_, ⟨_, rfl⟩, hW, hsame.mono (by decide) (by decide)⟩
        · show Steps p.tables e below (T71.setTop (mkF m 195 #[.val (.long rx), .second, .val (.long dx), .second, .val (.int sx), .val (.long v25), .second, .val (.int (0 : Int32))] [(.int (bz ((F4 v25) = (0 : Int32))))])) _
          exact retN X71 hx (t := .boolean) Bd.returns (by simp) (hb hby at_195) hr
        · show Q0 Z rx dx sx n0 [] _ T71.heap _
          exact ⟨(by exact ow_fin (own_no _ _ 2 (by decide) (by rfl) hb68)), N71, R71⟩
      · have pre77 : ∀ t, Steps p.tables e below (T64.setTop (mkF m 111 #[.val (.long rx), .second, .val (.long dx), .second, .val (.int sx), .val (.long v25), .second, .unset] [])) t → Steps p.tables e below (s₁.setTop (entryFrame m #[(.long rx), (.long dx), (.int sx)] maxLocals)) t := fun t k => pre65 t (by show Steps p.tables e below (T64.setTop (mkF m 108 #[.val (.long rx), .second, .val (.long dx), .second, .val (.int sx), .val (.long v25), .second, .unset] [(.int (F3 (F2 v25 (2 : Int32))))])) _; refine XS.ifNo X64.here hx rfl (hb hby at_108) rfl ((if0 _ _).trans (feq hb68).1) ?_; exact k)
        have pre78 : ∀ t, Steps p.tables e below (T64.setTop (mkF m 114 #[.val (.long rx), .second, .val (.long dx), .second, .val (.int sx), .val (.long v25), .second, .unset] [(.int (3 : Int32)), (.long v25)])) t → Steps p.tables e below (s₁.setTop (entryFrame m #[(.long rx), (.long dx), (.int sx)] maxLocals)) t := fun t k => pre77 t (by
          show Steps p.tables e below (T64.setTop (mkF m 111 #[.val (.long rx), .second, .val (.long dx), .second, .val (.int sx), .val (.long v25), .second, .unset] [])) _
          refine XS.lload X64.here hx rfl (hb hby at_111) rfl ?_
          refine XS.iconst X64.here hx rfl (hb hby at_113) ?_
          exact k)
        obtain ⟨_, _, ⟨T79, L79, k79, n79⟩, -, X79, ⟨Lc79, hQ79, l79, y79, z79⟩, st79⟩ := Jvm.LawKit.callS X64 hx (y := (⟨"com/example/tidemark/tidemark/input/WordsAllDigitsPinLaw", "byteAt", "(JI)J"⟩ : MethodName)) hown (mvT hZ (hw _ (List.mem_of_getElem? (i := 5) rfl))) (mvT hZ (hw _ (List.mem_of_getElem? (i := 6) rfl))) (mvT hZ (hw _ (List.mem_of_getElem? (i := 2) rfl))) (mvT hZ (hw _ (List.mem_of_getElem? (i := 7) rfl))) (by decide) (backOf (W := 0) (rm2 l Z a0 hw [] v25 (3 : Int32)  T64.heap n0 _ R64 ) hZ (hw _ (List.mem_of_getElem? (i := 7) rfl)) (hw _ (List.mem_of_getElem? (i := 2) rfl)) (by decide) (by decide)) (g := (mkF m 114 #[.val (.long rx), .second, .val (.long dx), .second, .val (.int sx), .val (.long v25), .second, .unset] [(.int (3 : Int32)), (.long v25)])) rfl (by rw [hml]; rfl) (argsL := [(.long v25), (.int (3 : Int32))]) (rest := []) (lenOf pd__28JI_29J rfl) rfl (by show 2 * 0 + _ ≤ _; exact Nat.le_of_eq rfl) (hb hby at_114) (fun _ _ => ⟨rfl, rfl, (by decide : 0 + 0 ≤ _), (by decide : 0 + 0 ≤ _)⟩)
        dsimp only [Pt.U, Pt.locs, Pt.cells, Pt.slots] at X79 l79 y79 z79 st79 hQ79
        subst y79 z79
        obtain ⟨rfl, N79q, R79⟩ := hQ79
        have N79 : Fr n0 L79 := by rw [l79]; exact Fr.app N64 N79q
        replace R79 : Rep Z n0 T79.heap ([]) := R79
        have pre80 : ∀ t, Steps p.tables e below (T79.setTop (mkF m 117 #[.val (.long rx), .second, .val (.long dx), .second, .val (.int sx), .val (.long v25), .second, .unset] [(.long (F2 v25 (3 : Int32)))])) t → Steps p.tables e below (s₁.setTop (entryFrame m #[(.long rx), (.long dx), (.int sx)] maxLocals)) t := fun t k => pre78 t (st79 t k)
        obtain ⟨_, _, ⟨T81, L81, k81, n81⟩, -, X81, ⟨Lc81, hQ81, l81, y81, z81⟩, st81⟩ := Jvm.LawKit.callS X79 hx (y := (⟨"com/example/tidemark/tidemark/input/WordsAllDigitsPinLaw", "isDigit", "(J)Z"⟩ : MethodName)) hown (mvT hZ (hw _ (List.mem_of_getElem? (i := 10) rfl))) (mvT hZ (hw _ (List.mem_of_getElem? (i := 11) rfl))) (mvT hZ (hw _ (List.mem_of_getElem? (i := 2) rfl))) (mvT hZ (hw _ (List.mem_of_getElem? (i := 12) rfl))) (by decide) (backOf (W := 0) (rm3 l Z a0 hw [] (F2 v25 (3 : Int32))  T79.heap n0 _ R79 ) hZ (hw _ (List.mem_of_getElem? (i := 12) rfl)) (hw _ (List.mem_of_getElem? (i := 2) rfl)) (by decide) (by decide)) (g := (mkF m 117 #[.val (.long rx), .second, .val (.long dx), .second, .val (.int sx), .val (.long v25), .second, .unset] [(.long (F2 v25 (3 : Int32)))])) rfl (by rw [hml]; rfl) (argsL := [(.long (F2 v25 (3 : Int32)))]) (rest := []) (lenOf pd__28J_29Z rfl) rfl (by show 2 * 0 + _ ≤ _; exact Nat.le_of_eq rfl) (hb hby at_117) (fun _ _ => ⟨rfl, rfl, (by decide : 0 + 0 ≤ _), (by decide : 0 + 0 ≤ _)⟩)
        dsimp only [Pt.U, Pt.locs, Pt.cells, Pt.slots] at X81 l81 y81 z81 st81 hQ81
        subst y81 z81
        obtain ⟨rfl, N81q, R81⟩ := hQ81
        have N81 : Fr n0 L81 := by rw [l81]; exact Fr.app N79 N81q
        replace R81 : Rep Z n0 T81.heap ([]) := R81
        have pre82 : ∀ t, Steps p.tables e below (T81.setTop (mkF m 120 #[.val (.long rx), .second, .val (.long dx), .second, .val (.int sx), .val (.long v25), .second, .unset] [(.int (F3 (F2 v25 (3 : Int32))))])) t → Steps p.tables e below (s₁.setTop (entryFrame m #[(.long rx), (.long dx), (.int sx)] maxLocals)) t := fun t k => pre80 t (st81 t k)
        by_cases hb85 : (F3 (F2 v25 (3 : Int32))) = (0 : Int32)
        · have pre86 : ∀ t, Steps p.tables e below (T81.setTop (mkF m 177 #[.val (.long rx), .second, .val (.long dx), .second, .val (.int sx), .val (.long v25), .second, .unset] [])) t → Steps p.tables e below (s₁.setTop (entryFrame m #[(.long rx), (.long dx), (.int sx)] maxLocals)) t := fun t k => pre82 t (by show Steps p.tables e below (T81.setTop (mkF m 120 #[.val (.long rx), .second, .val (.long dx), .second, .val (.int sx), .val (.long v25), .second, .unset] [(.int (F3 (F2 v25 (3 : Int32))))])) _; refine XS.ifYes X81.here hx rfl (pc0 := 120) (pc' := 177) rfl (hb hby at_120) rfl ((if0 _ _).trans (teq hb85).1) (by decide) (by decide) ?_; exact k)
          have pre87 : ∀ t, Steps p.tables e below (T81.setTop (mkF m 182 #[.val (.long rx), .second, .val (.long dx), .second, .val (.int sx), .val (.long v25), .second, .val (.int (0 : Int32))] [(.long v25)])) t → Steps p.tables e below (s₁.setTop (entryFrame m #[(.long rx), (.long dx), (.int sx)] maxLocals)) t := fun t k => pre86 t (by
            show Steps p.tables e below (T81.setTop (mkF m 177 #[.val (.long rx), .second, .val (.long dx), .second, .val (.int sx), .val (.long v25), .second, .unset] [])) _
            refine XS.iconst X81.here hx rfl (hb hby at_177) ?_
            refine XS.istore X81.here hx rfl (hb hby at_178) rfl (l' := #[.val (.long rx), .second, .val (.long dx), .second, .val (.int sx), .val (.long v25), .second, .val (.int (0 : Int32))]) rfl ?_
            refine XS.lload X81.here hx rfl (hb hby at_180) rfl ?_
            exact k)
          obtain ⟨_, _, ⟨T88, L88, k88, n88⟩, -, X88, ⟨Lc88, hQ88, l88, y88, z88⟩, st88⟩ := Jvm.LawKit.callS X81 hx (y := (⟨"com/example/tidemark/tidemark/input/Words", "allDigits", "(J)Z"⟩ : MethodName)) hown (mvT hZ (hw _ (List.mem_of_getElem? (i := 14) rfl))) (mvT hZ (hw _ (List.mem_of_getElem? (i := 15) rfl))) (mvT hZ (hw _ (List.mem_of_getElem? (i := 16) rfl))) (mvT hZ (hw _ (List.mem_of_getElem? (i := 17) rfl))) (by decide) (backOf (W := 0) (rm4 l Z a0 hw [] v25  T81.heap n0 _ R81 ) hZ (hw _ (List.mem_of_getElem? (i := 17) rfl)) (hw _ (List.mem_of_getElem? (i := 16) rfl)) (by decide) (by decide)) (g := (mkF m 182 #[.val (.long rx), .second, .val (.long dx), .second, .val (.int sx), .val (.long v25), .second, .val (.int (0 : Int32))] [(.long v25)])) rfl (by rw [hml]; rfl) (argsL := [(.long v25)]) (rest := []) (lenOf pd__28J_29Z rfl) rfl (by show 2 * 0 + _ ≤ _; exact Nat.le_of_eq rfl) (hb hby at_182) (fun _ _ => ⟨rfl, rfl, (by decide : 0 + 0 ≤ _), (by decide : 0 + 0 ≤ _)⟩)
          dsimp only [Pt.U, Pt.locs, Pt.cells, Pt.slots] at X88 l88 y88 z88 st88 hQ88
          subst y88 z88
          obtain ⟨rfl, N88q, R88⟩ := hQ88
          have N88 : Fr n0 L88 := by rw [l88]; exact Fr.app N81 N88q
          replace R88 : Rep Z n0 T88.heap ([]) := R88
          have pre89 : ∀ t, Steps p.tables e below (T88.setTop (mkF m 185 #[.val (.long rx), .second, .val (.long dx), .second, .val (.int sx), .val (.long v25), .second, .val (.int (0 : Int32))] [(.int (F4 v25))])) t → Steps p.tables e below (s₁.setTop (entryFrame m #[(.long rx), (.long dx), (.int sx)] maxLocals)) t := fun t k => pre87 t (st88 t k)
          have pre92 : ∀ t, Steps p.tables e below (T88.setTop (mkF m 187 #[.val (.long rx), .second, .val (.long dx), .second, .val (.int sx), .val (.long v25), .second, .val (.int (0 : Int32))] [(.int (0 : Int32)), (.int (F4 v25))])) t → Steps p.tables e below (s₁.setTop (entryFrame m #[(.long rx), (.long dx), (.int sx)] maxLocals)) t := fun t k => pre89 t (by
            show Steps p.tables e below (T88.setTop (mkF m 185 #[.val (.long rx), .second, .val (.long dx), .second, .val (.int sx), .val (.long v25), .second, .val (.int (0 : Int32))] [(.int (F4 v25))])) _
            refine XS.iload X88.here hx rfl (hb hby at_185) rfl ?_
            exact k)
          have tl91 : ∀ t, Steps p.tables e below (T88.setTop (mkF m 195 #[.val (.long rx), .second, .val (.long dx), .second, .val (.int sx), .val (.long v25), .second, .val (.int (0 : Int32))] [(.int (bz ((F4 v25) = (0 : Int32))))])) t → Steps p.tables e below (T88.setTop (mkF m 187 #[.val (.long rx), .second, .val (.long dx), .second, .val (.int sx), .val (.long v25), .second, .val (.int (0 : Int32))] [(.int (0 : Int32)), (.int (F4 v25))])) t := fun t k => by
            by_cases hb90 : (F4 v25) = (0 : Int32)
            · refine XS.icmpNo X88.here hx rfl (hb hby at_187) rfl (teq hb90).2 ?_
              rw [bz_one (P := ((F4 v25) = (0 : Int32))) (iff_true_intro hb90)] at k
              show Steps p.tables e below (T88.setTop (mkF m 190 #[.val (.long rx), .second, .val (.long dx), .second, .val (.int sx), .val (.long v25), .second, .val (.int (0 : Int32))] [])) _
              refine XS.iconst X88.here hx rfl (hb hby at_190) ?_
              refine XS.goto X88.here hx rfl (pc0 := 191) (pc' := 195) rfl (hb hby at_191) (by decide) (by decide) ?_
              exact k
            · refine XS.icmpYes X88.here hx rfl (pc0 := 187) (pc' := 194) rfl (hb hby at_187) rfl (feq hb90).2 (by decide) (by decide) ?_
              rw [bz_zero (P := ((F4 v25) = (0 : Int32))) (iff_false_intro hb90)] at k
              show Steps p.tables e below (T88.setTop (mkF m 194 #[.val (.long rx), .second, .val (.long dx), .second, .val (.int sx), .val (.long v25), .second, .val (.int (0 : Int32))] [])) _
              refine XS.iconst X88.here hx rfl (hb hby at_194) ?_
              exact k
          have pre93 : ∀ t, Steps p.tables e below (T88.setTop (mkF m 195 #[.val (.long rx), .second, .val (.long dx), .second, .val (.int sx), .val (.long v25), .second, .val (.int (0 : Int32))] [(.int (bz ((F4 v25) = (0 : Int32))))])) t → Steps p.tables e below (s₁.setTop (entryFrame m #[(.long rx), (.long dx), (.int sx)] maxLocals)) t := fun t k => pre92 t (by
            exact tl91 t k)
          obtain ⟨fs, hr, hrun, hended, hW, hsame⟩ := X88.leave (v := some (.int (nar .boolean (bz ((F4 v25) = (0 : Int32)))))) (fun h => by rw [Bd.returns] at h; cases h)
          refine ⟨_, _, pre93 _ ?_, hrun, hended, _, _, rfl, ?_, ⟨_, rfl⟩, hW, hsame.mono (by decide) (by decide)⟩
          · show Steps p.tables e below (T88.setTop (mkF m 195 #[.val (.long rx), .second, .val (.long dx), .second, .val (.int sx), .val (.long v25), .second, .val (.int (0 : Int32))] [(.int (bz ((F4 v25) = (0 : Int32))))])) _
            exact retN X88 hx (t := .boolean) Bd.returns (by simp) (hb hby at_195) hr
          · show Q0 Z rx dx sx n0 [] _ T88.heap _
            exact ⟨(by exact ow_fin (own_no _ _ 3 (by decide) (by rfl) hb85)), N88, R88⟩
        · have pre94 : ∀ t, Steps p.tables e below (T81.setTop (mkF m 123 #[.val (.long rx), .second, .val (.long dx), .second, .val (.int sx), .val (.long v25), .second, .unset] [])) t → Steps p.tables e below (s₁.setTop (entryFrame m #[(.long rx), (.long dx), (.int sx)] maxLocals)) t := fun t k => pre82 t (by show Steps p.tables e below (T81.setTop (mkF m 120 #[.val (.long rx), .second, .val (.long dx), .second, .val (.int sx), .val (.long v25), .second, .unset] [(.int (F3 (F2 v25 (3 : Int32))))])) _; refine XS.ifNo X81.here hx rfl (hb hby at_120) rfl ((if0 _ _).trans (feq hb85).1) ?_; exact k)
          have pre95 : ∀ t, Steps p.tables e below (T81.setTop (mkF m 126 #[.val (.long rx), .second, .val (.long dx), .second, .val (.int sx), .val (.long v25), .second, .unset] [(.int (4 : Int32)), (.long v25)])) t → Steps p.tables e below (s₁.setTop (entryFrame m #[(.long rx), (.long dx), (.int sx)] maxLocals)) t := fun t k => pre94 t (by
            show Steps p.tables e below (T81.setTop (mkF m 123 #[.val (.long rx), .second, .val (.long dx), .second, .val (.int sx), .val (.long v25), .second, .unset] [])) _
            refine XS.lload X81.here hx rfl (hb hby at_123) rfl ?_
            refine XS.iconst X81.here hx rfl (hb hby at_125) ?_
            exact k)
          obtain ⟨_, _, ⟨T96, L96, k96, n96⟩, -, X96, ⟨Lc96, hQ96, l96, y96, z96⟩, st96⟩ := Jvm.LawKit.callS X81 hx (y := (⟨"com/example/tidemark/tidemark/input/WordsAllDigitsPinLaw", "byteAt", "(JI)J"⟩ : MethodName)) hown (mvT hZ (hw _ (List.mem_of_getElem? (i := 5) rfl))) (mvT hZ (hw _ (List.mem_of_getElem? (i := 6) rfl))) (mvT hZ (hw _ (List.mem_of_getElem? (i := 2) rfl))) (mvT hZ (hw _ (List.mem_of_getElem? (i := 7) rfl))) (by decide) (backOf (W := 0) (rm2 l Z a0 hw [] v25 (4 : Int32)  T81.heap n0 _ R81 ) hZ (hw _ (List.mem_of_getElem? (i := 7) rfl)) (hw _ (List.mem_of_getElem? (i := 2) rfl)) (by decide) (by decide)) (g := (mkF m 126 #[.val (.long rx), .second, .val (.long dx), .second, .val (.int sx), .val (.long v25), .second, .unset] [(.int (4 : Int32)), (.long v25)])) rfl (by rw [hml]; rfl) (argsL := [(.long v25), (.int (4 : Int32))]) (rest := []) (lenOf pd__28JI_29J rfl) rfl (by show 2 * 0 + _ ≤ _; exact Nat.le_of_eq rfl) (hb hby at_126) (fun _ _ => ⟨rfl, rfl, (by decide : 0 + 0 ≤ _), (by decide : 0 + 0 ≤ _)⟩)
          dsimp only [Pt.U, Pt.locs, Pt.cells, Pt.slots] at X96 l96 y96 z96 st96 hQ96
          subst y96 z96
          obtain ⟨rfl, N96q, R96⟩ := hQ96
          have N96 : Fr n0 L96 := by rw [l96]; exact Fr.app N81 N96q
          replace R96 : Rep Z n0 T96.heap ([]) := R96
          have pre97 : ∀ t, Steps p.tables e below (T96.setTop (mkF m 129 #[.val (.long rx), .second, .val (.long dx), .second, .val (.int sx), .val (.long v25), .second, .unset] [(.long (F2 v25 (4 : Int32)))])) t → Steps p.tables e below (s₁.setTop (entryFrame m #[(.long rx), (.long dx), (.int sx)] maxLocals)) t := fun t k => pre95 t (st96 t k)
          obtain ⟨_, _, ⟨T98, L98, k98, n98⟩, -, X98, ⟨Lc98, hQ98, l98, y98, z98⟩, st98⟩ := Jvm.LawKit.callS X96 hx (y := (⟨"com/example/tidemark/tidemark/input/WordsAllDigitsPinLaw", "isDigit", "(J)Z"⟩ : MethodName)) hown (mvT hZ (hw _ (List.mem_of_getElem? (i := 10) rfl))) (mvT hZ (hw _ (List.mem_of_getElem? (i := 11) rfl))) (mvT hZ (hw _ (List.mem_of_getElem? (i := 2) rfl))) (mvT hZ (hw _ (List.mem_of_getElem? (i := 12) rfl))) (by decide) (backOf (W := 0) (rm3 l Z a0 hw [] (F2 v25 (4 : Int32))  T96.heap n0 _ R96 ) hZ (hw _ (List.mem_of_getElem? (i := 12) rfl)) (hw _ (List.mem_of_getElem? (i := 2) rfl)) (by decide) (by decide)) (g := (mkF m 129 #[.val (.long rx), .second, .val (.long dx), .second, .val (.int sx), .val (.long v25), .second, .unset] [(.long (F2 v25 (4 : Int32)))])) rfl (by rw [hml]; rfl) (argsL := [(.long (F2 v25 (4 : Int32)))]) (rest := []) (lenOf pd__28J_29Z rfl) rfl (by show 2 * 0 + _ ≤ _; exact Nat.le_of_eq rfl) (hb hby at_129) (fun _ _ => ⟨rfl, rfl, (by decide : 0 + 0 ≤ _), (by decide : 0 + 0 ≤ _)⟩)
          dsimp only [Pt.U, Pt.locs, Pt.cells, Pt.slots] at X98 l98 y98 z98 st98 hQ98
          subst y98 z98
          obtain ⟨rfl, N98q, R98⟩ := hQ98
          have N98 : Fr n0 L98 := by rw [l98]; exact Fr.app N96 N98q
          replace R98 : Rep Z n0 T98.heap ([]) := R98
          have pre99 : ∀ t, Steps p.tables e below (T98.setTop (mkF m 132 #[.val (.long rx), .second, .val (.long dx), .second, .val (.int sx), .val (.long v25), .second, .unset] [(.int (F3 (F2 v25 (4 : Int32))))])) t → Steps p.tables e below (s₁.setTop (entryFrame m #[(.long rx), (.long dx), (.int sx)] maxLocals)) t := fun t k => pre97 t (st98 t k)
          by_cases hb102 : (F3 (F2 v25 (4 : Int32))) = (0 : Int32)
          · have pre103 : ∀ t, Steps p.tables e below (T98.setTop (mkF m 177 #[.val (.long rx), .second, .val (.long dx), .second, .val (.int sx), .val (.long v25), .second, .unset] [])) t → Steps p.tables e below (s₁.setTop (entryFrame m #[(.long rx), (.long dx), (.int sx)] maxLocals)) t := fun t k => pre99 t (by show Steps p.tables e below (T98.setTop (mkF m 132 #[.val (.long rx), .second, .val (.long dx), .second, .val (.int sx), .val (.long v25), .second, .unset] [(.int (F3 (F2 v25 (4 : Int32))))])) _; refine XS.ifYes X98.here hx rfl (pc0 := 132) (pc' := 177) rfl (hb hby at_132) rfl ((if0 _ _).trans (teq hb102).1) (by decide) (by decide) ?_; exact k)
            have pre104 : ∀ t, Steps p.tables e below (T98.setTop (mkF m 182 #[.val (.long rx), .second, .val (.long dx), .second, .val (.int sx), .val (.long v25), .second, .val (.int (0 : Int32))] [(.long v25)])) t → Steps p.tables e below (s₁.setTop (entryFrame m #[(.long rx), (.long dx), (.int sx)] maxLocals)) t := fun t k => pre103 t (by
              show Steps p.tables e below (T98.setTop (mkF m 177 #[.val (.long rx), .second, .val (.long dx), .second, .val (.int sx), .val (.long v25), .second, .unset] [])) _
              refine XS.iconst X98.here hx rfl (hb hby at_177) ?_
              refine XS.istore X98.here hx rfl (hb hby at_178) rfl (l' := #[.val (.long rx), .second, .val (.long dx), .second, .val (.int sx), .val (.long v25), .second, .val (.int (0 : Int32))]) rfl ?_
              refine XS.lload X98.here hx rfl (hb hby at_180) rfl ?_
              exact k)
            obtain ⟨_, _, ⟨T105, L105, k105, n105⟩, -, X105, ⟨Lc105, hQ105, l105, y105, z105⟩, st105⟩ := Jvm.LawKit.callS X98 hx (y := (⟨"com/example/tidemark/tidemark/input/Words", "allDigits", "(J)Z"⟩ : MethodName)) hown (mvT hZ (hw _ (List.mem_of_getElem? (i := 14) rfl))) (mvT hZ (hw _ (List.mem_of_getElem? (i := 15) rfl))) (mvT hZ (hw _ (List.mem_of_getElem? (i := 16) rfl))) (mvT hZ (hw _ (List.mem_of_getElem? (i := 17) rfl))) (by decide) (backOf (W := 0) (rm4 l Z a0 hw [] v25  T98.heap n0 _ R98 ) hZ (hw _ (List.mem_of_getElem? (i := 17) rfl)) (hw _ (List.mem_of_getElem? (i := 16) rfl)) (by decide) (by decide)) (g := (mkF m 182 #[.val (.long rx), .second, .val (.long dx), .second, .val (.int sx), .val (.long v25), .second, .val (.int (0 : Int32))] [(.long v25)])) rfl (by rw [hml]; rfl) (argsL := [(.long v25)]) (rest := []) (lenOf pd__28J_29Z rfl) rfl (by show 2 * 0 + _ ≤ _; exact Nat.le_of_eq rfl) (hb hby at_182) (fun _ _ => ⟨rfl, rfl, (by decide : 0 + 0 ≤ _), (by decide : 0 + 0 ≤ _)⟩)
            dsimp only [Pt.U, Pt.locs, Pt.cells, Pt.slots] at X105 l105 y105 z105 st105 hQ105
            subst y105 z105
            obtain ⟨rfl, N105q, R105⟩ := hQ105
            have N105 : Fr n0 L105 := by rw [l105]; exact Fr.app N98 N105q
            replace R105 : Rep Z n0 T105.heap ([]) := R105
            have pre106 : ∀ t, Steps p.tables e below (T105.setTop (mkF m 185 #[.val (.long rx), .second, .val (.long dx), .second, .val (.int sx), .val (.long v25), .second, .val (.int (0 : Int32))] [(.int (F4 v25))])) t → Steps p.tables e below (s₁.setTop (entryFrame m #[(.long rx), (.long dx), (.int sx)] maxLocals)) t := fun t k => pre104 t (st105 t k)
            have pre109 : ∀ t, Steps p.tables e below (T105.setTop (mkF m 187 #[.val (.long rx), .second, .val (.long dx), .second, .val (.int sx), .val (.long v25), .second, .val (.int (0 : Int32))] [(.int (0 : Int32)), (.int (F4 v25))])) t → Steps p.tables e below (s₁.setTop (entryFrame m #[(.long rx), (.long dx), (.int sx)] maxLocals)) t := fun t k => pre106 t (by
              show Steps p.tables e below (T105.setTop (mkF m 185 #[.val (.long rx), .second, .val (.long dx), .second, .val (.int sx), .val (.long v25), .second, .val (.int (0 : Int32))] [(.int (F4 v25))])) _
              refine XS.iload X105.here hx rfl (hb hby at_185) rfl ?_
              exact k)
            have tl108 : ∀ t, Steps p.tables e below (T105.setTop (mkF m 195 #[.val (.long rx), .second, .val (.long dx), .second, .val (.int sx), .val (.long v25), .second, .val (.int (0 : Int32))] [(.int (bz ((F4 v25) = (0 : Int32))))])) t → Steps p.tables e below (T105.setTop (mkF m 187 #[.val (.long rx), .second, .val (.long dx), .second, .val (.int sx), .val (.long v25), .second, .val (.int (0 : Int32))] [(.int (0 : Int32)), (.int (F4 v25))])) t := fun t k => by
              by_cases hb107 : (F4 v25) = (0 : Int32)
              · refine XS.icmpNo X105.here hx rfl (hb hby at_187) rfl (teq hb107).2 ?_
                rw [bz_one (P := ((F4 v25) = (0 : Int32))) (iff_true_intro hb107)] at k
                show Steps p.tables e below (T105.setTop (mkF m 190 #[.val (.long rx), .second, .val (.long dx), .second, .val (.int sx), .val (.long v25), .second, .val (.int (0 : Int32))] [])) _
                refine XS.iconst X105.here hx rfl (hb hby at_190) ?_
                refine XS.goto X105.here hx rfl (pc0 := 191) (pc' := 195) rfl (hb hby at_191) (by decide) (by decide) ?_
                exact k
              · refine XS.icmpYes X105.here hx rfl (pc0 := 187) (pc' := 194) rfl (hb hby at_187) rfl (feq hb107).2 (by decide) (by decide) ?_
                rw [bz_zero (P := ((F4 v25) = (0 : Int32))) (iff_false_intro hb107)] at k
                show Steps p.tables e below (T105.setTop (mkF m 194 #[.val (.long rx), .second, .val (.long dx), .second, .val (.int sx), .val (.long v25), .second, .val (.int (0 : Int32))] [])) _
                refine XS.iconst X105.here hx rfl (hb hby at_194) ?_
                exact k
            have pre110 : ∀ t, Steps p.tables e below (T105.setTop (mkF m 195 #[.val (.long rx), .second, .val (.long dx), .second, .val (.int sx), .val (.long v25), .second, .val (.int (0 : Int32))] [(.int (bz ((F4 v25) = (0 : Int32))))])) t → Steps p.tables e below (s₁.setTop (entryFrame m #[(.long rx), (.long dx), (.int sx)] maxLocals)) t := fun t k => pre109 t (by
              exact tl108 t k)
            obtain ⟨fs, hr, hrun, hended, hW, hsame⟩ := X105.leave (v := some (.int (nar .boolean (bz ((F4 v25) = (0 : Int32)))))) (fun h => by rw [Bd.returns] at h; cases h)
            refine ⟨_, _, pre110 _ ?_, hrun, hended, _, _, rfl, ?_, ⟨_, rfl⟩, hW, hsame.mono (by decide) (by decide)⟩
            · show Steps p.tables e below (T105.setTop (mkF m 195 #[.val (.long rx), .second, .val (.long dx), .second, .val (.int sx), .val (.long v25), .second, .val (.int (0 : Int32))] [(.int (bz ((F4 v25) = (0 : Int32))))])) _
              exact retN X105 hx (t := .boolean) Bd.returns (by simp) (hb hby at_195) hr
            · show Q0 Z rx dx sx n0 [] _ T105.heap _
              exact ⟨(by exact ow_fin (own_no _ _ 4 (by decide) (by rfl) hb102)), N105, R105⟩
          · have pre111 : ∀ t, Steps p.tables e below (T98.setTop (mkF m 135 #[.val (.long rx), .second, .val (.long dx), .second, .val (.int sx), .val (.long v25), .second, .unset] [])) t → Steps p.tables e below (s₁.setTop (entryFrame m #[(.long rx), (.long dx), (.int sx)] maxLocals)) t := fun t k => pre99 t (by show Steps p.tables e below (T98.setTop (mkF m 132 #[.val (.long rx), .second, .val (.long dx), .second, .val (.int sx), .val (.long v25), .second, .unset] [(.int (F3 (F2 v25 (4 : Int32))))])) _; refine XS.ifNo X98.here hx rfl (hb hby at_132) rfl ((if0 _ _).trans (feq hb102).1) ?_; exact k)
            have pre112 : ∀ t, Steps p.tables e below (T98.setTop (mkF m 138 #[.val (.long rx), .second, .val (.long dx), .second, .val (.int sx), .val (.long v25), .second, .unset] [(.int (5 : Int32)), (.long v25)])) t → Steps p.tables e below (s₁.setTop (entryFrame m #[(.long rx), (.long dx), (.int sx)] maxLocals)) t := fun t k => pre111 t (by
              show Steps p.tables e below (T98.setTop (mkF m 135 #[.val (.long rx), .second, .val (.long dx), .second, .val (.int sx), .val (.long v25), .second, .unset] [])) _
              refine XS.lload X98.here hx rfl (hb hby at_135) rfl ?_
              refine XS.iconst X98.here hx rfl (hb hby at_137) ?_
              exact k)
            obtain ⟨_, _, ⟨T113, L113, k113, n113⟩, -, X113, ⟨Lc113, hQ113, l113, y113, z113⟩, st113⟩ := Jvm.LawKit.callS X98 hx (y := (⟨"com/example/tidemark/tidemark/input/WordsAllDigitsPinLaw", "byteAt", "(JI)J"⟩ : MethodName)) hown (mvT hZ (hw _ (List.mem_of_getElem? (i := 5) rfl))) (mvT hZ (hw _ (List.mem_of_getElem? (i := 6) rfl))) (mvT hZ (hw _ (List.mem_of_getElem? (i := 2) rfl))) (mvT hZ (hw _ (List.mem_of_getElem? (i := 7) rfl))) (by decide) (backOf (W := 0) (rm2 l Z a0 hw [] v25 (5 : Int32)  T98.heap n0 _ R98 ) hZ (hw _ (List.mem_of_getElem? (i := 7) rfl)) (hw _ (List.mem_of_getElem? (i := 2) rfl)) (by decide) (by decide)) (g := (mkF m 138 #[.val (.long rx), .second, .val (.long dx), .second, .val (.int sx), .val (.long v25), .second, .unset] [(.int (5 : Int32)), (.long v25)])) rfl (by rw [hml]; rfl) (argsL := [(.long v25), (.int (5 : Int32))]) (rest := []) (lenOf pd__28JI_29J rfl) rfl (by show 2 * 0 + _ ≤ _; exact Nat.le_of_eq rfl) (hb hby at_138) (fun _ _ => ⟨rfl, rfl, (by decide : 0 + 0 ≤ _), (by decide : 0 + 0 ≤ _)⟩)
            dsimp only [Pt.U, Pt.locs, Pt.cells, Pt.slots] at X113 l113 y113 z113 st113 hQ113
            subst y113 z113
            obtain ⟨rfl, N113q, R113⟩ := hQ113
            have N113 : Fr n0 L113 := by rw [l113]; exact Fr.app N98 N113q
            replace R113 : Rep Z n0 T113.heap ([]) := R113
            have pre114 : ∀ t, Steps p.tables e below (T113.setTop (mkF m 141 #[.val (.long rx), .second, .val (.long dx), .second, .val (.int sx), .val (.long v25), .second, .unset] [(.long (F2 v25 (5 : Int32)))])) t → Steps p.tables e below (s₁.setTop (entryFrame m #[(.long rx), (.long dx), (.int sx)] maxLocals)) t := fun t k => pre112 t (st113 t k)
            obtain ⟨_, _, ⟨T115, L115, k115, n115⟩, -, X115, ⟨Lc115, hQ115, l115, y115, z115⟩, st115⟩ := Jvm.LawKit.callS X113 hx (y := (⟨"com/example/tidemark/tidemark/input/WordsAllDigitsPinLaw", "isDigit", "(J)Z"⟩ : MethodName)) hown (mvT hZ (hw _ (List.mem_of_getElem? (i := 10) rfl))) (mvT hZ (hw _ (List.mem_of_getElem? (i := 11) rfl))) (mvT hZ (hw _ (List.mem_of_getElem? (i := 2) rfl))) (mvT hZ (hw _ (List.mem_of_getElem? (i := 12) rfl))) (by decide) (backOf (W := 0) (rm3 l Z a0 hw [] (F2 v25 (5 : Int32))  T113.heap n0 _ R113 ) hZ (hw _ (List.mem_of_getElem? (i := 12) rfl)) (hw _ (List.mem_of_getElem? (i := 2) rfl)) (by decide) (by decide)) (g := (mkF m 141 #[.val (.long rx), .second, .val (.long dx), .second, .val (.int sx), .val (.long v25), .second, .unset] [(.long (F2 v25 (5 : Int32)))])) rfl (by rw [hml]; rfl) (argsL := [(.long (F2 v25 (5 : Int32)))]) (rest := []) (lenOf pd__28J_29Z rfl) rfl (by show 2 * 0 + _ ≤ _; exact Nat.le_of_eq rfl) (hb hby at_141) (fun _ _ => ⟨rfl, rfl, (by decide : 0 + 0 ≤ _), (by decide : 0 + 0 ≤ _)⟩)
            dsimp only [Pt.U, Pt.locs, Pt.cells, Pt.slots] at X115 l115 y115 z115 st115 hQ115
            subst y115 z115
            obtain ⟨rfl, N115q, R115⟩ := hQ115
            have N115 : Fr n0 L115 := by rw [l115]; exact Fr.app N113 N115q
            replace R115 : Rep Z n0 T115.heap ([]) := R115
            have pre116 : ∀ t, Steps p.tables e below (T115.setTop (mkF m 144 #[.val (.long rx), .second, .val (.long dx), .second, .val (.int sx), .val (.long v25), .second, .unset] [(.int (F3 (F2 v25 (5 : Int32))))])) t → Steps p.tables e below (s₁.setTop (entryFrame m #[(.long rx), (.long dx), (.int sx)] maxLocals)) t := fun t k => pre114 t (st115 t k)
            by_cases hb119 : (F3 (F2 v25 (5 : Int32))) = (0 : Int32)
            · have pre120 : ∀ t, Steps p.tables e below (T115.setTop (mkF m 177 #[.val (.long rx), .second, .val (.long dx), .second, .val (.int sx), .val (.long v25), .second, .unset] [])) t → Steps p.tables e below (s₁.setTop (entryFrame m #[(.long rx), (.long dx), (.int sx)] maxLocals)) t := fun t k => pre116 t (by show Steps p.tables e below (T115.setTop (mkF m 144 #[.val (.long rx), .second, .val (.long dx), .second, .val (.int sx), .val (.long v25), .second, .unset] [(.int (F3 (F2 v25 (5 : Int32))))])) _; refine XS.ifYes X115.here hx rfl (pc0 := 144) (pc' := 177) rfl (hb hby at_144) rfl ((if0 _ _).trans (teq hb119).1) (by decide) (by decide) ?_; exact k)
              have pre121 : ∀ t, Steps p.tables e below (T115.setTop (mkF m 182 #[.val (.long rx), .second, .val (.long dx), .second, .val (.int sx), .val (.long v25), .second, .val (.int (0 : Int32))] [(.long v25)])) t → Steps p.tables e below (s₁.setTop (entryFrame m #[(.long rx), (.long dx), (.int sx)] maxLocals)) t := fun t k => pre120 t (by
                show Steps p.tables e below (T115.setTop (mkF m 177 #[.val (.long rx), .second, .val (.long dx), .second, .val (.int sx), .val (.long v25), .second, .unset] [])) _
                refine XS.iconst X115.here hx rfl (hb hby at_177) ?_
                refine XS.istore X115.here hx rfl (hb hby at_178) rfl (l' := #[.val (.long rx), .second, .val (.long dx), .second, .val (.int sx), .val (.long v25), .second, .val (.int (0 : Int32))]) rfl ?_
                refine XS.lload X115.here hx rfl (hb hby at_180) rfl ?_
                exact k)
              obtain ⟨_, _, ⟨T122, L122, k122, n122⟩, -, X122, ⟨Lc122, hQ122, l122, y122, z122⟩, st122⟩ := Jvm.LawKit.callS X115 hx (y := (⟨"com/example/tidemark/tidemark/input/Words", "allDigits", "(J)Z"⟩ : MethodName)) hown (mvT hZ (hw _ (List.mem_of_getElem? (i := 14) rfl))) (mvT hZ (hw _ (List.mem_of_getElem? (i := 15) rfl))) (mvT hZ (hw _ (List.mem_of_getElem? (i := 16) rfl))) (mvT hZ (hw _ (List.mem_of_getElem? (i := 17) rfl))) (by decide) (backOf (W := 0) (rm4 l Z a0 hw [] v25  T115.heap n0 _ R115 ) hZ (hw _ (List.mem_of_getElem? (i := 17) rfl)) (hw _ (List.mem_of_getElem? (i := 16) rfl)) (by decide) (by decide)) (g := (mkF m 182 #[.val (.long rx), .second, .val (.long dx), .second, .val (.int sx), .val (.long v25), .second, .val (.int (0 : Int32))] [(.long v25)])) rfl (by rw [hml]; rfl) (argsL := [(.long v25)]) (rest := []) (lenOf pd__28J_29Z rfl) rfl (by show 2 * 0 + _ ≤ _; exact Nat.le_of_eq rfl) (hb hby at_182) (fun _ _ => ⟨rfl, rfl, (by decide : 0 + 0 ≤ _), (by decide : 0 + 0 ≤ _)⟩)
              dsimp only [Pt.U, Pt.locs, Pt.cells, Pt.slots] at X122 l122 y122 z122 st122 hQ122
              subst y122 z122
              obtain ⟨rfl, N122q, R122⟩ := hQ122
              have N122 : Fr n0 L122 := by rw [l122]; exact Fr.app N115 N122q
              replace R122 : Rep Z n0 T122.heap ([]) := R122
              have pre123 : ∀ t, Steps p.tables e below (T122.setTop (mkF m 185 #[.val (.long rx), .second, .val (.long dx), .second, .val (.int sx), .val (.long v25), .second, .val (.int (0 : Int32))] [(.int (F4 v25))])) t → Steps p.tables e below (s₁.setTop (entryFrame m #[(.long rx), (.long dx), (.int sx)] maxLocals)) t := fun t k => pre121 t (st122 t k)
              have pre126 : ∀ t, Steps p.tables e below (T122.setTop (mkF m 187 #[.val (.long rx), .second, .val (.long dx), .second, .val (.int sx), .val (.long v25), .second, .val (.int (0 : Int32))] [(.int (0 : Int32)), (.int (F4 v25))])) t → Steps p.tables e below (s₁.setTop (entryFrame m #[(.long rx), (.long dx), (.int sx)] maxLocals)) t := fun t k => pre123 t (by
                show Steps p.tables e below (T122.setTop (mkF m 185 #[.val (.long rx), .second, .val (.long dx), .second, .val (.int sx), .val (.long v25), .second, .val (.int (0 : Int32))] [(.int (F4 v25))])) _
                refine XS.iload X122.here hx rfl (hb hby at_185) rfl ?_
                exact k)
              have tl125 : ∀ t, Steps p.tables e below (T122.setTop (mkF m 195 #[.val (.long rx), .second, .val (.long dx), .second, .val (.int sx), .val (.long v25), .second, .val (.int (0 : Int32))] [(.int (bz ((F4 v25) = (0 : Int32))))])) t → Steps p.tables e below (T122.setTop (mkF m 187 #[.val (.long rx), .second, .val (.long dx), .second, .val (.int sx), .val (.long v25), .second, .val (.int (0 : Int32))] [(.int (0 : Int32)), (.int (F4 v25))])) t := fun t k => by
                by_cases hb124 : (F4 v25) = (0 : Int32)
                · refine XS.icmpNo X122.here hx rfl (hb hby at_187) rfl (teq hb124).2 ?_
                  rw [bz_one (P := ((F4 v25) = (0 : Int32))) (iff_true_intro hb124)] at k
                  show Steps p.tables e below (T122.setTop (mkF m 190 #[.val (.long rx), .second, .val (.long dx), .second, .val (.int sx), .val (.long v25), .second, .val (.int (0 : Int32))] [])) _
                  refine XS.iconst X122.here hx rfl (hb hby at_190) ?_
                  refine XS.goto X122.here hx rfl (pc0 := 191) (pc' := 195) rfl (hb hby at_191) (by decide) (by decide) ?_
                  exact k
                · refine XS.icmpYes X122.here hx rfl (pc0 := 187) (pc' := 194) rfl (hb hby at_187) rfl (feq hb124).2 (by decide) (by decide) ?_
                  rw [bz_zero (P := ((F4 v25) = (0 : Int32))) (iff_false_intro hb124)] at k
                  show Steps p.tables e below (T122.setTop (mkF m 194 #[.val (.long rx), .second, .val (.long dx), .second, .val (.int sx), .val (.long v25), .second, .val (.int (0 : Int32))] [])) _
                  refine XS.iconst X122.here hx rfl (hb hby at_194) ?_
                  exact k
              have pre127 : ∀ t, Steps p.tables e below (T122.setTop (mkF m 195 #[.val (.long rx), .second, .val (.long dx), .second, .val (.int sx), .val (.long v25), .second, .val (.int (0 : Int32))] [(.int (bz ((F4 v25) = (0 : Int32))))])) t → Steps p.tables e below (s₁.setTop (entryFrame m #[(.long rx), (.long dx), (.int sx)] maxLocals)) t := fun t k => pre126 t (by
                exact tl125 t k)
              obtain ⟨fs, hr, hrun, hended, hW, hsame⟩ := X122.leave (v := some (.int (nar .boolean (bz ((F4 v25) = (0 : Int32)))))) (fun h => by rw [Bd.returns] at h; cases h)
              refine ⟨_, _, pre127 _ ?_, hrun, hended, _, _, rfl, ?_, ⟨_, rfl⟩, hW, hsame.mono (by decide) (by decide)⟩
              · show Steps p.tables e below (T122.setTop (mkF m 195 #[.val (.long rx), .second, .val (.long dx), .second, .val (.int sx), .val (.long v25), .second, .val (.int (0 : Int32))] [(.int (bz ((F4 v25) = (0 : Int32))))])) _
                exact retN X122 hx (t := .boolean) Bd.returns (by simp) (hb hby at_195) hr
              · show Q0 Z rx dx sx n0 [] _ T122.heap _
                exact ⟨(by exact ow_fin (own_no _ _ 5 (by decide) (by rfl) hb119)), N122, R122⟩
            · have pre128 : ∀ t, Steps p.tables e below (T115.setTop (mkF m 147 #[.val (.long rx), .second, .val (.long dx), .second, .val (.int sx), .val (.long v25), .second, .unset] [])) t → Steps p.tables e below (s₁.setTop (entryFrame m #[(.long rx), (.long dx), (.int sx)] maxLocals)) t := fun t k => pre116 t (by show Steps p.tables e below (T115.setTop (mkF m 144 #[.val (.long rx), .second, .val (.long dx), .second, .val (.int sx), .val (.long v25), .second, .unset] [(.int (F3 (F2 v25 (5 : Int32))))])) _; refine XS.ifNo X115.here hx rfl (hb hby at_144) rfl ((if0 _ _).trans (feq hb119).1) ?_; exact k)
              have pre129 : ∀ t, Steps p.tables e below (T115.setTop (mkF m 151 #[.val (.long rx), .second, .val (.long dx), .second, .val (.int sx), .val (.long v25), .second, .unset] [(.int (6 : Int32)), (.long v25)])) t → Steps p.tables e below (s₁.setTop (entryFrame m #[(.long rx), (.long dx), (.int sx)] maxLocals)) t := fun t k => pre128 t (by
                show Steps p.tables e below (T115.setTop (mkF m 147 #[.val (.long rx), .second, .val (.long dx), .second, .val (.int sx), .val (.long v25), .second, .unset] [])) _
                refine XS.lload X115.here hx rfl (hb hby at_147) rfl ?_
                refine XS.bipush X115.here hx rfl (hb hby at_149) ?_
                exact k)
              obtain ⟨_, _, ⟨T130, L130, k130, n130⟩, -, X130, ⟨Lc130, hQ130, l130, y130, z130⟩, st130⟩ := Jvm.LawKit.callS X115 hx (y := (⟨"com/example/tidemark/tidemark/input/WordsAllDigitsPinLaw", "byteAt", "(JI)J"⟩ : MethodName)) hown (mvT hZ (hw _ (List.mem_of_getElem? (i := 5) rfl))) (mvT hZ (hw _ (List.mem_of_getElem? (i := 6) rfl))) (mvT hZ (hw _ (List.mem_of_getElem? (i := 2) rfl))) (mvT hZ (hw _ (List.mem_of_getElem? (i := 7) rfl))) (by decide) (backOf (W := 0) (rm2 l Z a0 hw [] v25 (6 : Int32)  T115.heap n0 _ R115 ) hZ (hw _ (List.mem_of_getElem? (i := 7) rfl)) (hw _ (List.mem_of_getElem? (i := 2) rfl)) (by decide) (by decide)) (g := (mkF m 151 #[.val (.long rx), .second, .val (.long dx), .second, .val (.int sx), .val (.long v25), .second, .unset] [(.int (6 : Int32)), (.long v25)])) rfl (by rw [hml]; rfl) (argsL := [(.long v25), (.int (6 : Int32))]) (rest := []) (lenOf pd__28JI_29J rfl) rfl (by show 2 * 0 + _ ≤ _; exact Nat.le_of_eq rfl) (hb hby at_151) (fun _ _ => ⟨rfl, rfl, (by decide : 0 + 0 ≤ _), (by decide : 0 + 0 ≤ _)⟩)
              dsimp only [Pt.U, Pt.locs, Pt.cells, Pt.slots] at X130 l130 y130 z130 st130 hQ130
              subst y130 z130
              obtain ⟨rfl, N130q, R130⟩ := hQ130
              have N130 : Fr n0 L130 := by rw [l130]; exact Fr.app N115 N130q
              replace R130 : Rep Z n0 T130.heap ([]) := R130
              have pre131 : ∀ t, Steps p.tables e below (T130.setTop (mkF m 154 #[.val (.long rx), .second, .val (.long dx), .second, .val (.int sx), .val (.long v25), .second, .unset] [(.long (F2 v25 (6 : Int32)))])) t → Steps p.tables e below (s₁.setTop (entryFrame m #[(.long rx), (.long dx), (.int sx)] maxLocals)) t := fun t k => pre129 t (st130 t k)
              obtain ⟨_, _, ⟨T132, L132, k132, n132⟩, -, X132, ⟨Lc132, hQ132, l132, y132, z132⟩, st132⟩ := Jvm.LawKit.callS X130 hx (y := (⟨"com/example/tidemark/tidemark/input/WordsAllDigitsPinLaw", "isDigit", "(J)Z"⟩ : MethodName)) hown (mvT hZ (hw _ (List.mem_of_getElem? (i := 10) rfl))) (mvT hZ (hw _ (List.mem_of_getElem? (i := 11) rfl))) (mvT hZ (hw _ (List.mem_of_getElem? (i := 2) rfl))) (mvT hZ (hw _ (List.mem_of_getElem? (i := 12) rfl))) (by decide) (backOf (W := 0) (rm3 l Z a0 hw [] (F2 v25 (6 : Int32))  T130.heap n0 _ R130 ) hZ (hw _ (List.mem_of_getElem? (i := 12) rfl)) (hw _ (List.mem_of_getElem? (i := 2) rfl)) (by decide) (by decide)) (g := (mkF m 154 #[.val (.long rx), .second, .val (.long dx), .second, .val (.int sx), .val (.long v25), .second, .unset] [(.long (F2 v25 (6 : Int32)))])) rfl (by rw [hml]; rfl) (argsL := [(.long (F2 v25 (6 : Int32)))]) (rest := []) (lenOf pd__28J_29Z rfl) rfl (by show 2 * 0 + _ ≤ _; exact Nat.le_of_eq rfl) (hb hby at_154) (fun _ _ => ⟨rfl, rfl, (by decide : 0 + 0 ≤ _), (by decide : 0 + 0 ≤ _)⟩)
              dsimp only [Pt.U, Pt.locs, Pt.cells, Pt.slots] at X132 l132 y132 z132 st132 hQ132
              subst y132 z132
              obtain ⟨rfl, N132q, R132⟩ := hQ132
              have N132 : Fr n0 L132 := by rw [l132]; exact Fr.app N130 N132q
              replace R132 : Rep Z n0 T132.heap ([]) := R132
              have pre133 : ∀ t, Steps p.tables e below (T132.setTop (mkF m 157 #[.val (.long rx), .second, .val (.long dx), .second, .val (.int sx), .val (.long v25), .second, .unset] [(.int (F3 (F2 v25 (6 : Int32))))])) t → Steps p.tables e below (s₁.setTop (entryFrame m #[(.long rx), (.long dx), (.int sx)] maxLocals)) t := fun t k => pre131 t (st132 t k)
              by_cases hb136 : (F3 (F2 v25 (6 : Int32))) = (0 : Int32)
              · have pre137 : ∀ t, Steps p.tables e below (T132.setTop (mkF m 177 #[.val (.long rx), .second, .val (.long dx), .second, .val (.int sx), .val (.long v25), .second, .unset] [])) t → Steps p.tables e below (s₁.setTop (entryFrame m #[(.long rx), (.long dx), (.int sx)] maxLocals)) t := fun t k => pre133 t (by show Steps p.tables e below (T132.setTop (mkF m 157 #[.val (.long rx), .second, .val (.long dx), .second, .val (.int sx), .val (.long v25), .second, .unset] [(.int (F3 (F2 v25 (6 : Int32))))])) _; refine XS.ifYes X132.here hx rfl (pc0 := 157) (pc' := 177) rfl (hb hby at_157) rfl ((if0 _ _).trans (teq hb136).1) (by decide) (by decide) ?_; exact k)
                have pre138 : ∀ t, Steps p.tables e below (T132.setTop (mkF m 182 #[.val (.long rx), .second, .val (.long dx), .second, .val (.int sx), .val (.long v25), .second, .val (.int (0 : Int32))] [(.long v25)])) t → Steps p.tables e below (s₁.setTop (entryFrame m #[(.long rx), (.long dx), (.int sx)] maxLocals)) t := fun t k => pre137 t (by
                  show Steps p.tables e below (T132.setTop (mkF m 177 #[.val (.long rx), .second, .val (.long dx), .second, .val (.int sx), .val (.long v25), .second, .unset] [])) _
                  refine XS.iconst X132.here hx rfl (hb hby at_177) ?_
                  refine XS.istore X132.here hx rfl (hb hby at_178) rfl (l' := #[.val (.long rx), .second, .val (.long dx), .second, .val (.int sx), .val (.long v25), .second, .val (.int (0 : Int32))]) rfl ?_
                  refine XS.lload X132.here hx rfl (hb hby at_180) rfl ?_
                  exact k)
                obtain ⟨_, _, ⟨T139, L139, k139, n139⟩, -, X139, ⟨Lc139, hQ139, l139, y139, z139⟩, st139⟩ := Jvm.LawKit.callS X132 hx (y := (⟨"com/example/tidemark/tidemark/input/Words", "allDigits", "(J)Z"⟩ : MethodName)) hown (mvT hZ (hw _ (List.mem_of_getElem? (i := 14) rfl))) (mvT hZ (hw _ (List.mem_of_getElem? (i := 15) rfl))) (mvT hZ (hw _ (List.mem_of_getElem? (i := 16) rfl))) (mvT hZ (hw _ (List.mem_of_getElem? (i := 17) rfl))) (by decide) (backOf (W := 0) (rm4 l Z a0 hw [] v25  T132.heap n0 _ R132 ) hZ (hw _ (List.mem_of_getElem? (i := 17) rfl)) (hw _ (List.mem_of_getElem? (i := 16) rfl)) (by decide) (by decide)) (g := (mkF m 182 #[.val (.long rx), .second, .val (.long dx), .second, .val (.int sx), .val (.long v25), .second, .val (.int (0 : Int32))] [(.long v25)])) rfl (by rw [hml]; rfl) (argsL := [(.long v25)]) (rest := []) (lenOf pd__28J_29Z rfl) rfl (by show 2 * 0 + _ ≤ _; exact Nat.le_of_eq rfl) (hb hby at_182) (fun _ _ => ⟨rfl, rfl, (by decide : 0 + 0 ≤ _), (by decide : 0 + 0 ≤ _)⟩)
                dsimp only [Pt.U, Pt.locs, Pt.cells, Pt.slots] at X139 l139 y139 z139 st139 hQ139
                subst y139 z139
                obtain ⟨rfl, N139q, R139⟩ := hQ139
                have N139 : Fr n0 L139 := by rw [l139]; exact Fr.app N132 N139q
                replace R139 : Rep Z n0 T139.heap ([]) := R139
                have pre140 : ∀ t, Steps p.tables e below (T139.setTop (mkF m 185 #[.val (.long rx), .second, .val (.long dx), .second, .val (.int sx), .val (.long v25), .second, .val (.int (0 : Int32))] [(.int (F4 v25))])) t → Steps p.tables e below (s₁.setTop (entryFrame m #[(.long rx), (.long dx), (.int sx)] maxLocals)) t := fun t k => pre138 t (st139 t k)
                have pre143 : ∀ t, Steps p.tables e below (T139.setTop (mkF m 187 #[.val (.long rx), .second, .val (.long dx), .second, .val (.int sx), .val (.long v25), .second, .val (.int (0 : Int32))] [(.int (0 : Int32)), (.int (F4 v25))])) t → Steps p.tables e below (s₁.setTop (entryFrame m #[(.long rx), (.long dx), (.int sx)] maxLocals)) t := fun t k => pre140 t (by
                  show Steps p.tables e below (T139.setTop (mkF m 185 #[.val (.long rx), .second, .val (.long dx), .second, .val (.int sx), .val (.long v25), .second, .val (.int (0 : Int32))] [(.int (F4 v25))])) _
                  refine XS.iload X139.here hx rfl (hb hby at_185) rfl ?_
                  exact k)
                have tl142 : ∀ t, Steps p.tables e below (T139.setTop (mkF m 195 #[.val (.long rx), .second, .val (.long dx), .second, .val (.int sx), .val (.long v25), .second, .val (.int (0 : Int32))] [(.int (bz ((F4 v25) = (0 : Int32))))])) t → Steps p.tables e below (T139.setTop (mkF m 187 #[.val (.long rx), .second, .val (.long dx), .second, .val (.int sx), .val (.long v25), .second, .val (.int (0 : Int32))] [(.int (0 : Int32)), (.int (F4 v25))])) t := fun t k => by
                  by_cases hb141 : (F4 v25) = (0 : Int32)
                  · refine XS.icmpNo X139.here hx rfl (hb hby at_187) rfl (teq hb141).2 ?_
                    rw [bz_one (P := ((F4 v25) = (0 : Int32))) (iff_true_intro hb141)] at k
                    show Steps p.tables e below (T139.setTop (mkF m 190 #[.val (.long rx), .second, .val (.long dx), .second, .val (.int sx), .val (.long v25), .second, .val (.int (0 : Int32))] [])) _
                    refine XS.iconst X139.here hx rfl (hb hby at_190) ?_
                    refine XS.goto X139.here hx rfl (pc0 := 191) (pc' := 195) rfl (hb hby at_191) (by decide) (by decide) ?_
                    exact k
                  · refine XS.icmpYes X139.here hx rfl (pc0 := 187) (pc' := 194) rfl (hb hby at_187) rfl (feq hb141).2 (by decide) (by decide) ?_
                    rw [bz_zero (P := ((F4 v25) = (0 : Int32))) (iff_false_intro hb141)] at k
                    show Steps p.tables e below (T139.setTop (mkF m 194 #[.val (.long rx), .second, .val (.long dx), .second, .val (.int sx), .val (.long v25), .second, .val (.int (0 : Int32))] [])) _
                    refine XS.iconst X139.here hx rfl (hb hby at_194) ?_
                    exact k
                have pre144 : ∀ t, Steps p.tables e below (T139.setTop (mkF m 195 #[.val (.long rx), .second, .val (.long dx), .second, .val (.int sx), .val (.long v25), .second, .val (.int (0 : Int32))] [(.int (bz ((F4 v25) = (0 : Int32))))])) t → Steps p.tables e below (s₁.setTop (entryFrame m #[(.long rx), (.long dx), (.int sx)] maxLocals)) t := fun t k => pre143 t (by
                  exact tl142 t k)
                obtain ⟨fs, hr, hrun, hended, hW, hsame⟩ := X139.leave (v := some (.int (nar .boolean (bz ((F4 v25) = (0 : Int32)))))) (fun h => by rw [Bd.returns] at h; cases h)
                refine ⟨_, _, pre144 _ ?_, hrun, hended, _, _, rfl, ?_, ⟨_, rfl⟩, hW, hsame.mono (by decide) (by decide)⟩
                · show Steps p.tables e below (T139.setTop (mkF m 195 #[.val (.long rx), .second, .val (.long dx), .second, .val (.int sx), .val (.long v25), .second, .val (.int (0 : Int32))] [(.int (bz ((F4 v25) = (0 : Int32))))])) _
                  exact retN X139 hx (t := .boolean) Bd.returns (by simp) (hb hby at_195) hr
                · show Q0 Z rx dx sx n0 [] _ T139.heap _
                  exact ⟨(by exact ow_fin (own_no _ _ 6 (by decide) (by rfl) hb136)), N139, R139⟩
              · have pre145 : ∀ t, Steps p.tables e below (T132.setTop (mkF m 160 #[.val (.long rx), .second, .val (.long dx), .second, .val (.int sx), .val (.long v25), .second, .unset] [])) t → Steps p.tables e below (s₁.setTop (entryFrame m #[(.long rx), (.long dx), (.int sx)] maxLocals)) t := fun t k => pre133 t (by show Steps p.tables e below (T132.setTop (mkF m 157 #[.val (.long rx), .second, .val (.long dx), .second, .val (.int sx), .val (.long v25), .second, .unset] [(.int (F3 (F2 v25 (6 : Int32))))])) _; refine XS.ifNo X132.here hx rfl (hb hby at_157) rfl ((if0 _ _).trans (feq hb136).1) ?_; exact k)
                have pre146 : ∀ t, Steps p.tables e below (T132.setTop (mkF m 164 #[.val (.long rx), .second, .val (.long dx), .second, .val (.int sx), .val (.long v25), .second, .unset] [(.int (7 : Int32)), (.long v25)])) t → Steps p.tables e below (s₁.setTop (entryFrame m #[(.long rx), (.long dx), (.int sx)] maxLocals)) t := fun t k => pre145 t (by
                  show Steps p.tables e below (T132.setTop (mkF m 160 #[.val (.long rx), .second, .val (.long dx), .second, .val (.int sx), .val (.long v25), .second, .unset] [])) _
                  refine XS.lload X132.here hx rfl (hb hby at_160) rfl ?_
                  refine XS.bipush X132.here hx rfl (hb hby at_162) ?_
                  exact k)
                obtain ⟨_, _, ⟨T147, L147, k147, n147⟩, -, X147, ⟨Lc147, hQ147, l147, y147, z147⟩, st147⟩ := Jvm.LawKit.callS X132 hx (y := (⟨"com/example/tidemark/tidemark/input/WordsAllDigitsPinLaw", "byteAt", "(JI)J"⟩ : MethodName)) hown (mvT hZ (hw _ (List.mem_of_getElem? (i := 5) rfl))) (mvT hZ (hw _ (List.mem_of_getElem? (i := 6) rfl))) (mvT hZ (hw _ (List.mem_of_getElem? (i := 2) rfl))) (mvT hZ (hw _ (List.mem_of_getElem? (i := 7) rfl))) (by decide) (backOf (W := 0) (rm2 l Z a0 hw [] v25 (7 : Int32)  T132.heap n0 _ R132 ) hZ (hw _ (List.mem_of_getElem? (i := 7) rfl)) (hw _ (List.mem_of_getElem? (i := 2) rfl)) (by decide) (by decide)) (g := (mkF m 164 #[.val (.long rx), .second, .val (.long dx), .second, .val (.int sx), .val (.long v25), .second, .unset] [(.int (7 : Int32)), (.long v25)])) rfl (by rw [hml]; rfl) (argsL := [(.long v25), (.int (7 : Int32))]) (rest := []) (lenOf pd__28JI_29J rfl) rfl (by show 2 * 0 + _ ≤ _; exact Nat.le_of_eq rfl) (hb hby at_164) (fun _ _ => ⟨rfl, rfl, (by decide : 0 + 0 ≤ _), (by decide : 0 + 0 ≤ _)⟩)
                dsimp only [Pt.U, Pt.locs, Pt.cells, Pt.slots] at X147 l147 y147 z147 st147 hQ147
                subst y147 z147
                obtain ⟨rfl, N147q, R147⟩ := hQ147
                have N147 : Fr n0 L147 := by rw [l147]; exact Fr.app N132 N147q
                replace R147 : Rep Z n0 T147.heap ([]) := R147
                have pre148 : ∀ t, Steps p.tables e below (T147.setTop (mkF m 167 #[.val (.long rx), .second, .val (.long dx), .second, .val (.int sx), .val (.long v25), .second, .unset] [(.long (F2 v25 (7 : Int32)))])) t → Steps p.tables e below (s₁.setTop (entryFrame m #[(.long rx), (.long dx), (.int sx)] maxLocals)) t := fun t k => pre146 t (st147 t k)
                obtain ⟨_, _, ⟨T149, L149, k149, n149⟩, -, X149, ⟨Lc149, hQ149, l149, y149, z149⟩, st149⟩ := Jvm.LawKit.callS X147 hx (y := (⟨"com/example/tidemark/tidemark/input/WordsAllDigitsPinLaw", "isDigit", "(J)Z"⟩ : MethodName)) hown (mvT hZ (hw _ (List.mem_of_getElem? (i := 10) rfl))) (mvT hZ (hw _ (List.mem_of_getElem? (i := 11) rfl))) (mvT hZ (hw _ (List.mem_of_getElem? (i := 2) rfl))) (mvT hZ (hw _ (List.mem_of_getElem? (i := 12) rfl))) (by decide) (backOf (W := 0) (rm3 l Z a0 hw [] (F2 v25 (7 : Int32))  T147.heap n0 _ R147 ) hZ (hw _ (List.mem_of_getElem? (i := 12) rfl)) (hw _ (List.mem_of_getElem? (i := 2) rfl)) (by decide) (by decide)) (g := (mkF m 167 #[.val (.long rx), .second, .val (.long dx), .second, .val (.int sx), .val (.long v25), .second, .unset] [(.long (F2 v25 (7 : Int32)))])) rfl (by rw [hml]; rfl) (argsL := [(.long (F2 v25 (7 : Int32)))]) (rest := []) (lenOf pd__28J_29Z rfl) rfl (by show 2 * 0 + _ ≤ _; exact Nat.le_of_eq rfl) (hb hby at_167) (fun _ _ => ⟨rfl, rfl, (by decide : 0 + 0 ≤ _), (by decide : 0 + 0 ≤ _)⟩)
                dsimp only [Pt.U, Pt.locs, Pt.cells, Pt.slots] at X149 l149 y149 z149 st149 hQ149
                subst y149 z149
                obtain ⟨rfl, N149q, R149⟩ := hQ149
                have N149 : Fr n0 L149 := by rw [l149]; exact Fr.app N147 N149q
                replace R149 : Rep Z n0 T149.heap ([]) := R149
                have pre150 : ∀ t, Steps p.tables e below (T149.setTop (mkF m 170 #[.val (.long rx), .second, .val (.long dx), .second, .val (.int sx), .val (.long v25), .second, .unset] [(.int (F3 (F2 v25 (7 : Int32))))])) t → Steps p.tables e below (s₁.setTop (entryFrame m #[(.long rx), (.long dx), (.int sx)] maxLocals)) t := fun t k => pre148 t (st149 t k)
                have tl152 : ∀ t, Steps p.tables e below (T149.setTop (mkF m 178 #[.val (.long rx), .second, .val (.long dx), .second, .val (.int sx), .val (.long v25), .second, .unset] [(.int (bz (¬ ((F3 (F2 v25 (7 : Int32))) = (0 : Int32)))))])) t → Steps p.tables e below (T149.setTop (mkF m 170 #[.val (.long rx), .second, .val (.long dx), .second, .val (.int sx), .val (.long v25), .second, .unset] [(.int (F3 (F2 v25 (7 : Int32))))])) t := fun t k => by
                  by_cases hb151 : (F3 (F2 v25 (7 : Int32))) = (0 : Int32)
                  · refine XS.ifYes X149.here hx rfl (pc0 := 170) (pc' := 177) rfl (hb hby at_170) rfl ((if0 _ _).trans (teq hb151).1) (by decide) (by decide) ?_
                    rw [bz_zero (P := (¬ ((F3 (F2 v25 (7 : Int32))) = (0 : Int32)))) (iff_false_intro (not_not_intro hb151))] at k
                    show Steps p.tables e below (T149.setTop (mkF m 177 #[.val (.long rx), .second, .val (.long dx), .second, .val (.int sx), .val (.long v25), .second, .unset] [])) _
                    refine XS.iconst X149.here hx rfl (hb hby at_177) ?_
                    exact k
                  · refine XS.ifNo X149.here hx rfl (hb hby at_170) rfl ((if0 _ _).trans (feq hb151).1) ?_
                    rw [bz_one (P := (¬ ((F3 (F2 v25 (7 : Int32))) = (0 : Int32)))) (iff_true_intro hb151)] at k
                    show Steps p.tables e below (T149.setTop (mkF m 173 #[.val (.long rx), .second, .val (.long dx), .second, .val (.int sx), .val (.long v25), .second, .unset] [])) _
                    refine XS.iconst X149.here hx rfl (hb hby at_173) ?_
                    refine XS.goto X149.here hx rfl (pc0 := 174) (pc' := 178) rfl (hb hby at_174) (by decide) (by decide) ?_
                    exact k
                have pre153 : ∀ t, Steps p.tables e below (T149.setTop (mkF m 178 #[.val (.long rx), .second, .val (.long dx), .second, .val (.int sx), .val (.long v25), .second, .unset] [(.int (bz (¬ ((F3 (F2 v25 (7 : Int32))) = (0 : Int32)))))])) t → Steps p.tables e below (s₁.setTop (entryFrame m #[(.long rx), (.long dx), (.int sx)] maxLocals)) t := fun t k => pre150 t (by
                  exact tl152 t k)
                have pre154 : ∀ t, Steps p.tables e below (T149.setTop (mkF m 182 #[.val (.long rx), .second, .val (.long dx), .second, .val (.int sx), .val (.long v25), .second, .val (.int (bz (¬ ((F3 (F2 v25 (7 : Int32))) = (0 : Int32)))))] [(.long v25)])) t → Steps p.tables e below (s₁.setTop (entryFrame m #[(.long rx), (.long dx), (.int sx)] maxLocals)) t := fun t k => pre153 t (by
                  show Steps p.tables e below (T149.setTop (mkF m 178 #[.val (.long rx), .second, .val (.long dx), .second, .val (.int sx), .val (.long v25), .second, .unset] [(.int (bz (¬ ((F3 (F2 v25 (7 : Int32))) = (0 : Int32)))))])) _
                  refine XS.istore X149.here hx rfl (hb hby at_178) rfl (l' := #[.val (.long rx), .second, .val (.long dx), .second, .val (.int sx), .val (.long v25), .second, .val (.int (bz (¬ ((F3 (F2 v25 (7 : Int32))) = (0 : Int32)))))]) rfl ?_
                  refine XS.lload X149.here hx rfl (hb hby at_180) rfl ?_
                  exact k)
                obtain ⟨_, _, ⟨T155, L155, k155, n155⟩, -, X155, ⟨Lc155, hQ155, l155, y155, z155⟩, st155⟩ := Jvm.LawKit.callS X149 hx (y := (⟨"com/example/tidemark/tidemark/input/Words", "allDigits", "(J)Z"⟩ : MethodName)) hown (mvT hZ (hw _ (List.mem_of_getElem? (i := 14) rfl))) (mvT hZ (hw _ (List.mem_of_getElem? (i := 15) rfl))) (mvT hZ (hw _ (List.mem_of_getElem? (i := 16) rfl))) (mvT hZ (hw _ (List.mem_of_getElem? (i := 17) rfl))) (by decide) (backOf (W := 0) (rm4 l Z a0 hw [] v25  T149.heap n0 _ R149 ) hZ (hw _ (List.mem_of_getElem? (i := 17) rfl)) (hw _ (List.mem_of_getElem? (i := 16) rfl)) (by decide) (by decide)) (g := (mkF m 182 #[.val (.long rx), .second, .val (.long dx), .second, .val (.int sx), .val (.long v25), .second, .val (.int (bz (¬ ((F3 (F2 v25 (7 : Int32))) = (0 : Int32)))))] [(.long v25)])) rfl (by rw [hml]; rfl) (argsL := [(.long v25)]) (rest := []) (lenOf pd__28J_29Z rfl) rfl (by show 2 * 0 + _ ≤ _; exact Nat.le_of_eq rfl) (hb hby at_182) (fun _ _ => ⟨rfl, rfl, (by decide : 0 + 0 ≤ _), (by decide : 0 + 0 ≤ _)⟩)
                dsimp only [Pt.U, Pt.locs, Pt.cells, Pt.slots] at X155 l155 y155 z155 st155 hQ155
                subst y155 z155
                obtain ⟨rfl, N155q, R155⟩ := hQ155
                have N155 : Fr n0 L155 := by rw [l155]; exact Fr.app N149 N155q
                replace R155 : Rep Z n0 T155.heap ([]) := R155
                have pre156 : ∀ t, Steps p.tables e below (T155.setTop (mkF m 185 #[.val (.long rx), .second, .val (.long dx), .second, .val (.int sx), .val (.long v25), .second, .val (.int (bz (¬ ((F3 (F2 v25 (7 : Int32))) = (0 : Int32)))))] [(.int (F4 v25))])) t → Steps p.tables e below (s₁.setTop (entryFrame m #[(.long rx), (.long dx), (.int sx)] maxLocals)) t := fun t k => pre154 t (st155 t k)
                have pre159 : ∀ t, Steps p.tables e below (T155.setTop (mkF m 187 #[.val (.long rx), .second, .val (.long dx), .second, .val (.int sx), .val (.long v25), .second, .val (.int (bz (¬ ((F3 (F2 v25 (7 : Int32))) = (0 : Int32)))))] [(.int (bz (¬ ((F3 (F2 v25 (7 : Int32))) = (0 : Int32))))), (.int (F4 v25))])) t → Steps p.tables e below (s₁.setTop (entryFrame m #[(.long rx), (.long dx), (.int sx)] maxLocals)) t := fun t k => pre156 t (by
                  show Steps p.tables e below (T155.setTop (mkF m 185 #[.val (.long rx), .second, .val (.long dx), .second, .val (.int sx), .val (.long v25), .second, .val (.int (bz (¬ ((F3 (F2 v25 (7 : Int32))) = (0 : Int32)))))] [(.int (F4 v25))])) _
                  refine XS.iload X155.here hx rfl (hb hby at_185) rfl ?_
                  exact k)
                have tl158 : ∀ t, Steps p.tables e below (T155.setTop (mkF m 195 #[.val (.long rx), .second, .val (.long dx), .second, .val (.int sx), .val (.long v25), .second, .val (.int (bz (¬ ((F3 (F2 v25 (7 : Int32))) = (0 : Int32)))))] [(.int (bz ((F4 v25) = (bz (¬ ((F3 (F2 v25 (7 : Int32))) = (0 : Int32)))))))])) t → Steps p.tables e below (T155.setTop (mkF m 187 #[.val (.long rx), .second, .val (.long dx), .second, .val (.int sx), .val (.long v25), .second, .val (.int (bz (¬ ((F3 (F2 v25 (7 : Int32))) = (0 : Int32)))))] [(.int (bz (¬ ((F3 (F2 v25 (7 : Int32))) = (0 : Int32))))), (.int (F4 v25))])) t := fun t k => by
                  by_cases hb157 : (F4 v25) = (bz (¬ ((F3 (F2 v25 (7 : Int32))) = (0 : Int32))))
                  · refine XS.icmpNo X155.here hx rfl (hb hby at_187) rfl (teq hb157).2 ?_
                    rw [bz_one (P := ((F4 v25) = (bz (¬ ((F3 (F2 v25 (7 : Int32))) = (0 : Int32)))))) (iff_true_intro hb157)] at k
                    show Steps p.tables e below (T155.setTop (mkF m 190 #[.val (.long rx), .second, .val (.long dx), .second, .val (.int sx), .val (.long v25), .second, .val (.int (bz (¬ ((F3 (F2 v25 (7 : Int32))) = (0 : Int32)))))] [])) _
                    refine XS.iconst X155.here hx rfl (hb hby at_190) ?_
                    refine XS.goto X155.here hx rfl (pc0 := 191) (pc' := 195) rfl (hb hby at_191) (by decide) (by decide) ?_
                    exact k
                  · refine XS.icmpYes X155.here hx rfl (pc0 := 187) (pc' := 194) rfl (hb hby at_187) rfl (feq hb157).2 (by decide) (by decide) ?_
                    rw [bz_zero (P := ((F4 v25) = (bz (¬ ((F3 (F2 v25 (7 : Int32))) = (0 : Int32)))))) (iff_false_intro hb157)] at k
                    show Steps p.tables e below (T155.setTop (mkF m 194 #[.val (.long rx), .second, .val (.long dx), .second, .val (.int sx), .val (.long v25), .second, .val (.int (bz (¬ ((F3 (F2 v25 (7 : Int32))) = (0 : Int32)))))] [])) _
                    refine XS.iconst X155.here hx rfl (hb hby at_194) ?_
                    exact k
                have pre160 : ∀ t, Steps p.tables e below (T155.setTop (mkF m 195 #[.val (.long rx), .second, .val (.long dx), .second, .val (.int sx), .val (.long v25), .second, .val (.int (bz (¬ ((F3 (F2 v25 (7 : Int32))) = (0 : Int32)))))] [(.int (bz ((F4 v25) = (bz (¬ ((F3 (F2 v25 (7 : Int32))) = (0 : Int32)))))))])) t → Steps p.tables e below (s₁.setTop (entryFrame m #[(.long rx), (.long dx), (.int sx)] maxLocals)) t := fun t k => pre159 t (by
                  exact tl158 t k)
                obtain ⟨fs, hr, hrun, hended, hW, hsame⟩ := X155.leave (v := some (.int (nar .boolean (bz ((F4 v25) = (bz (¬ ((F3 (F2 v25 (7 : Int32))) = (0 : Int32))))))))) (fun h => by rw [Bd.returns] at h; cases h)
                refine ⟨_, _, pre160 _ ?_, hrun, hended, _, _, rfl, ?_, ⟨_, rfl⟩, hW, hsame.mono (by decide) (by decide)⟩
                · show Steps p.tables e below (T155.setTop (mkF m 195 #[.val (.long rx), .second, .val (.long dx), .second, .val (.int sx), .val (.long v25), .second, .val (.int (bz (¬ ((F3 (F2 v25 (7 : Int32))) = (0 : Int32)))))] [(.int (bz ((F4 v25) = (bz (¬ ((F3 (F2 v25 (7 : Int32))) = (0 : Int32)))))))])) _
                  exact retN X155 hx (t := .boolean) Bd.returns (by simp) (hb hby at_195) hr
                · show Q0 Z rx dx sx n0 [] _ T155.heap _
                  exact ⟨(by exact ow_fin (own_yes _ hb34 hb51 hb68 hb85 hb102 hb119 hb136)), N155, R155⟩
set_option maxRecDepth 65536 in
set_option maxHeartbeats 40000000 in
theorem comes_1 {Post : Tables → Env → Array Value → State → Outcome → State → Prop} (hpost : ∀ tb e args s v u, (limb_1_1.after args s (.returned v) u = true ∧ limb_1_2.after args s (.returned v) u = true ∧ True) → FrameEnd s (.returned v) u (Jvm.fieldLocs frame_1_writes args s ++ Jvm.arrayLocs frame_1_arrays args s ++ Jvm.staticLocs frame_1_statics s) 0 0 → Post tb e args s (.returned v) u) :
    ArmFor flags0 classFile x code maxLocals ret World_1 tables_1 room_1 Calls_1 rest_1 Pre_1 Post := by
  intro l hfl _ _ p e ha hc hk s m args below hf hA hF happ hP
  obtain ⟨hcalls, hrest, hpre⟩ := hP
  obtain ⟨-, -, -, hnamed, -, -, -, hat⟩ := (Spec.applies_iff hf).mp happ
  obtain ⟨hg, hn⟩ := and_e (Cond.before_iff.mp (show (Jvm.Cond.and given_1 narrow_1).before args s = true from hpre))
  obtain ⟨hct, hg⟩ := and_e hg
  obtain ⟨hg0, hg⟩ := and_e hg
  obtain ⟨hg1, hg⟩ := and_e hg
  have hg2 := hg
  obtain ⟨w0, w1, w2, rfl⟩ : ∃ w0 w1 w2 : Value, args = #[w0, w1, w2] := by
    have hs : args.size = 3 := by simpa [Cond.value, given_1] using hct
    obtain ⟨L⟩ := args
    match L, hs with
    | [w0, w1, w2], _ => exact ⟨w0, w1, w2, rfl⟩
  have hw := fun d (hd : d ∈ tables_1) => atoms_spec (ws := Jvm.Cond.code x code maxLocals ret :: tables_1) hat d (List.mem_cons_of_mem _ hd)
  obtain ⟨i0, ei0⟩ := isL_v hg0
  obtain rfl : w0 = (.long i0) := Option.some.inj ei0
  obtain ⟨i1, ei1⟩ := isL_v hg1
  obtain rfl : w1 = (.long i1) := Option.some.inj ei1
  obtain ⟨i2, ei2⟩ := is_v hg2
  obtain rfl : w2 = (.int i2) := Option.some.inj ei2
  obtain ⟨n, o, h1, h2, h3, _, L, rfl, ⟨rfl, N, -⟩, hq⟩ := rm0 l s _ hw tables_1 i0 i1 i2 s.heap s.heap.size (Rep.nil _) p e ha hc hk s m _ below hf ((Spec.applies_iff_loose hf).mp happ).1 ⟨rfl, State.Warmed39.refl s, rfl⟩ trivial
  refine ⟨n, _, h1, h2, h3, hpost _ _ _ _ _ _ ⟨Cond.after_iff.mpr rfl, Cond.after_iff.mpr (eq_i res_at (Term.int_eval (1)) rfl), trivial⟩ ⟨hq.1, hq.2.1, (hq.2.2.sift fun y hy => Or.inr (N y hy)).mono (by decide) (by decide)⟩⟩
theorem main_1_1 : Claimed_1_1 := comes_1 fun _ _ _ _ _ _ h hF => ⟨h.1, hF⟩
theorem main_1_2 : Claimed_1_2 := comes_1 fun _ _ _ _ _ _ h hF => ⟨h.2.1, hF⟩
end Jvm.Pilot.@@N@@
namespace Jvm.Pilot.@@N@@
open Jvm Jvm.ClassFile Sem Op Lib Jvm.Free Jvm.Stand Jvm.Pilot.@@N@@.Jvm.D
/-! MADE BY PROGRAM (witnessworld.py) out of the Statement's table words and the real class files: 9 classes; the members and pool entries that the words name. The judged class is class 1, her method 4. -/
namespace start1
open Jvm.ClassFile
def u (s : String) : CpInfo := .utf8 (stringToUtf16 s)
/-- a pool by its gaps: so many unusable entries, then the entry; so many at the end -/
def gap : Nat → List CpInfo → List CpInfo
  | 0, r => r
  | n + 1, r => .unusable :: gap n r
def poolList (es : List (Nat × CpInfo)) (last : Nat) : List CpInfo := es.foldr (fun e r => gap e.1 (e.2 :: r)) (gap last [])
def pool (es : List (Nat × CpInfo)) (last : Nat) : Array CpInfo := ⟨poolList es last⟩
def fileOf (pool : Array CpInfo) (this : Nat) (attrs : Array Attribute := #[]) (ms : Array MethodInfo := #[]) (fl : Nat := 33) (sup : Nat := 0) (ifs : Array Nat := #[]) (fds : Array FieldInfo := #[]) : ClassFile where
  minorVersion := 0
  majorVersion := 65
  constantPool := pool
  accessFlags := fl
  thisClass := this
  superClass := sup
  interfaces := ifs
  fields := fds
  methods := ms
  attributes := attrs
def plain (name : String) (sup : Option ClassId) : Class where
  name := name
  kind := .ordinary
  loader := none
  accessFlags := 33
  super := sup
  interfaces := #[]
  cf := none
  fields := #[]
  methods := #[]
  instanceTypes := #[]
  staticTypes := #[]
  resolved := #[]
  callSites := []
  init := .initialized
  statics := none
  mirror := none

def pool0 : Array CpInfo := pool [(5, u "<init>"), (0, u "()V"), (1, .class_ 10), (1, u "java/lang/Object")] 113

def k0m0 : Method := { name := "<init>", desc := "()V", sig := { parameters := [], returnType := none }, accessFlags := 1, code := none }
/-- java/lang/Object -/
def k0 : Class := { plain "java/lang/Object" none with
  accessFlags := 33
  interfaces := #[]
  cf := some (fileOf pool0 8 #[] #[{ accessFlags := 1, nameIndex := 5, descriptorIndex := 6, attributes := #[] }] 33 0 #[] #[])
  fields := #[]
  methods := #[k0m0]
  instanceTypes := #[]
  staticTypes := #[]
  resolved := Array.replicate 124 none
  statics := none }

def pool1 : Array CpInfo := pool [(2, .class_ 4), (1, u "java/lang/Object"), (0, u "<init>"), (0, u "()V"), (0, .long 255), (1, .long 48), (1, .long 57), (1, .methodref 14 15), (0, .class_ 16), (0, .nameAndType 17 18), (0, u "com/example/tidemark/tidemark/input/WordsAllDigitsPinLaw"), (0, u "byteAt"), (0, u "(JI)J"), (0, .long 10), (1, .methodref 14 22), (0, .nameAndType 23 24), (0, u "pick"), (0, u "(JJII)J"), (0, .methodref 14 26), (0, .nameAndType 27 28), (0, u "isDigit"), (0, u "(J)Z"), (0, .methodref 30 31), (0, .class_ 32), (0, .nameAndType 33 28), (0, u "com/example/tidemark/tidemark/input/Words"), (0, u "allDigits"), (3, u "law"), (0, u "(JJI)Z")] 2

def k1m0 : Method := { name := "<init>", desc := "()V", sig := { parameters := [], returnType := none }, accessFlags := 2, code := none }
def k1c1 : Code := { maxStack := 4, maxLocals := 3, code := method_2_code, exceptionTable := #[], attributes := #[] }
def k1m1 : Method := { name := "byteAt", desc := "(JI)J", sig := { parameters := [.long, .int], returnType := some .long }, accessFlags := 10, code := some k1c1 }
def k1c2 : Code := { maxStack := 4, maxLocals := 2, code := method_3_code, exceptionTable := #[], attributes := #[] }
def k1m2 : Method := { name := "isDigit", desc := "(J)Z", sig := { parameters := [.long], returnType := some .boolean }, accessFlags := 10, code := some k1c2 }
def k1c3 : Code := { maxStack := 6, maxLocals := 8, code := method_4_code, exceptionTable := #[], attributes := #[] }
def k1m3 : Method := { name := "pick", desc := "(JJII)J", sig := { parameters := [.long, .long, .int, .int], returnType := some .long }, accessFlags := 10, code := some k1c3 }
def k1c4 : Code := { maxStack := 8, maxLocals := 8, code := code, exceptionTable := #[], attributes := #[] }
def k1m4 : Method := { name := "law", desc := "(JJI)Z", sig := { parameters := [.long, .long, .int], returnType := some .boolean }, accessFlags := 9, code := some k1c4 }
/-- com/example/tidemark/tidemark/input/WordsAllDigitsPinLaw -/
def k1 : Class := { plain "com/example/tidemark/tidemark/input/WordsAllDigitsPinLaw" (some 0) with
  accessFlags := 49
  interfaces := #[]
  cf := some (fileOf pool1 14 #[] #[{ accessFlags := 2, nameIndex := 5, descriptorIndex := 6, attributes := #[] }, { accessFlags := 10, nameIndex := 17, descriptorIndex := 18, attributes := #[] }, { accessFlags := 10, nameIndex := 27, descriptorIndex := 28, attributes := #[] }, { accessFlags := 10, nameIndex := 23, descriptorIndex := 24, attributes := #[] }, { accessFlags := 9, nameIndex := 37, descriptorIndex := 38, attributes := #[] }] 49 2 #[] #[])
  fields := #[]
  methods := #[k1m0, k1m1, k1m2, k1m3, k1m4]
  instanceTypes := #[]
  staticTypes := #[]
  resolved := Array.replicate 41 none
  statics := none }

def pool2 : Array CpInfo := pool [(3, .class_ 4), (0, u "com/example/tidemark/tidemark/input/Words"), (1, .class_ 8), (1, u "java/lang/Object"), (0, u "<init>"), (0, u "()V"), (2, u "LONGS"), (0, u "Ljava/lang/invoke/VarHandle;"), (10, .long 9259542123273814144), (5, .long 3472328296227680304), (1, .long 5063812098665367110), (17, u "BYTES"), (0, u "I"), (2, u "ONES"), (0, u "J"), (0, u "HIGH_BITS"), (0, u "ZEROS"), (0, u "ABOVE_NINE"), (8, u "allDigits"), (0, u "(J)Z")] 8

def k2m0 : Method := { name := "<init>", desc := "()V", sig := { parameters := [], returnType := none }, accessFlags := 2, code := none }
def k2c1 : Code := { maxStack := 6, maxLocals := 2, code := prog_94_method_6_code, exceptionTable := #[], attributes := #[] }
def k2m1 : Method := { name := "allDigits", desc := "(J)Z", sig := { parameters := [.long], returnType := some .boolean }, accessFlags := 8, code := some k2c1 }
/-- com/example/tidemark/tidemark/input/Words -/
def k2 : Class := { plain "com/example/tidemark/tidemark/input/Words" (some 0) with
  accessFlags := 48
  interfaces := #[]
  cf := some (fileOf pool2 3 #[] #[{ accessFlags := 2, nameIndex := 9, descriptorIndex := 10, attributes := #[] }, { accessFlags := 8, nameIndex := 68, descriptorIndex := 69, attributes := #[] }] 48 6 #[] #[{ accessFlags := 24, nameIndex := 51, descriptorIndex := 52, attributes := #[] }, { accessFlags := 24, nameIndex := 55, descriptorIndex := 56, attributes := #[] }, { accessFlags := 24, nameIndex := 57, descriptorIndex := 56, attributes := #[] }, { accessFlags := 24, nameIndex := 58, descriptorIndex := 56, attributes := #[] }, { accessFlags := 26, nameIndex := 13, descriptorIndex := 14, attributes := #[] }, { accessFlags := 26, nameIndex := 59, descriptorIndex := 56, attributes := #[] }])
  fields := #[{ name := "BYTES", type := .int, accessFlags := 24, slot := 0, constantValue := 0 }, { name := "ONES", type := .long, accessFlags := 24, slot := 1, constantValue := 0 }, { name := "HIGH_BITS", type := .long, accessFlags := 24, slot := 2, constantValue := 0 }, { name := "ZEROS", type := .long, accessFlags := 24, slot := 3, constantValue := 0 }, { name := "LONGS", type := (.object "java/lang/invoke/VarHandle"), accessFlags := 26, slot := 4, constantValue := 0 }, { name := "ABOVE_NINE", type := .long, accessFlags := 26, slot := 5, constantValue := 0 }]
  methods := #[k2m0, k2m1]
  instanceTypes := #[]
  staticTypes := #[.int, .long, .long, .long, (.object "java/lang/invoke/VarHandle"), .long]
  resolved := Array.replicate 78 none
  statics := none }

def pool3 : Array CpInfo := pool [(1, u "java/lang/Cloneable"), (0, .class_ 1), (0, u "java/lang/Object"), (0, .class_ 3)] 3

/-- java/lang/Cloneable -/
def k3 : Class := { plain "java/lang/Cloneable" (some 0) with
  accessFlags := 1537
  interfaces := #[]
  cf := some (fileOf pool3 2 #[] #[] 1537 4 #[] #[])
  fields := #[]
  methods := #[]
  instanceTypes := #[]
  staticTypes := #[]
  resolved := Array.replicate 8 none
  statics := none }

def pool4 : Array CpInfo := pool [(1, u "java/io/Serializable"), (0, .class_ 1), (0, u "java/lang/Object"), (0, .class_ 3)] 3

/-- java/io/Serializable -/
def k4 : Class := { plain "java/io/Serializable" (some 0) with
  accessFlags := 1537
  interfaces := #[]
  cf := some (fileOf pool4 2 #[] #[] 1537 4 #[] #[])
  fields := #[]
  methods := #[]
  instanceTypes := #[]
  staticTypes := #[]
  resolved := Array.replicate 8 none
  statics := none }

/-- the primitive byte -/
def k5 : Class := { plain "byte" none with kind := .primitive 'B', accessFlags := 0x411 }
/-- [B -/
def k6 : Class := { plain "[B" (some 0) with kind := .array 5 .byte, interfaces := #[3, 4], accessFlags := 1041 }

/-- the primitive int -/
def k7 : Class := { plain "int" none with kind := .primitive 'I', accessFlags := 0x411 }
/-- [I -/
def k8 : Class := { plain "[I" (some 0) with kind := .array 7 .int, interfaces := #[3, 4], accessFlags := 1041 }

def heap : Heap := #[]
def classes : Array Class := #[k0, k1, k2, k3, k4, k5, k6, k7, k8]
def interned : List (Array UInt16 × Addr) := []
def slotsUsed : Nat := 0
def theMethod : MethodId := ⟨1, 4⟩
def args0 : Array Value := #[.long 5, .long 7, .int 3]
def aboutOver (below : List Frame) : State where
  vm := { classes := classes, interned := interned.toArray }
  heap := heap
  slotsUsed := slotsUsed
  threads := #[{ frames := .invoking theMethod args0 :: below }]
def below0 : List Frame := [.native { method := ⟨0, 0⟩, args := #[] }]
def about1 : State := aboutOver below0
def p0 : Program := .bare "" "" ""
def e0 : Env := launch0.env 0 0 0
theorem w_frames : about1.frames = Frame.invoking theMethod args0 :: below0 := rfl
set_option maxRecDepth 65536 in
theorem w_args : argsFit about1.vm theMethod args0 = true := by decide +kernel
set_option maxRecDepth 65536 in
theorem w_heap : heapFits about1 = true := by decide +kernel
set_option maxRecDepth 65536 in
theorem w_runnable : about1.curStatus? = some .runnable := by decide +kernel
set_option maxRecDepth 65536 in
theorem w_alone : about1.alone = true := by decide +kernel
set_option maxRecDepth 65536 in
theorem w_named : about1.methodNamed? x = some theMethod := by decide +kernel
set_option maxRecDepth 65536 in
theorem w_hears : about1.hears theMethod below0 = true := by decide +kernel
set_option maxRecDepth 65536 in
theorem w_ripe : about1.ripe theMethod args0 below0 = true := by decide +kernel
theorem w_running : about1.status = .running := rfl
set_option maxRecDepth 65536 in
theorem w_room : about1.hasRoom e0.platform room_1 = true :=
  launch0.hasRoom_least _ room_1 (by decide +kernel) (by decide +kernel) (by decide +kernel) (by decide +kernel) (by decide +kernel) (by decide +kernel)
theorem allAtoms_all (ts : List Jvm.Cond) (a : Array Jvm.Value) (st : Jvm.State) : (allAtoms ts).before a st = ts.all (fun c => c.before a st) := by
  induction ts with
  | nil => rfl
  | cons c t ih =>
    show (Jvm.Cond.and c (allAtoms t)).before a st = _
    rw [Jvm.Cond.before_and, ih, List.all_cons]
def words1 : List Jvm.Cond := Jvm.Cond.code x code maxLocals ret :: tables_1
/-- a 'code' word, met by the world's own term for the bytes: nothing is compared byte by byte -/
theorem code_word {y : MethodName} {bytes : ByteArray} {mx : Nat} {rt : Option FieldType} {a : Array Value} {s : State} {m : MethodId} {meth : Method} {c : Code} (h1 : s.methodNamed? y = some m) (h2 : s.vm.method? m = some meth) (h3 : meth.code = some c) (h4 : c.code = bytes)
    (h5 : (c.maxLocals == mx && c.exceptionTable.isEmpty && decide (c.maxStack ≤ mostOperands) && decide (meth.sig.returnType = rt) && !meth.locks && decide (parseMethodDescriptor y.desc = some meth.sig)) = true) : (Jvm.Cond.code y bytes mx rt).before a s = true := by
  simp only [Bool.and_eq_true, beq_iff_eq, Bool.not_eq_true', decide_eq_true_eq] at h5
  obtain ⟨⟨⟨⟨⟨g1, g2⟩, g3⟩, g4⟩, g5⟩, g6⟩ := h5
  simp [Cond.before, Cond.holds, Cond.value, h1, h2, h3, h4, g1, g2, g3, g4, g5, g6]
def isCode : Jvm.Cond → Bool
  | .code _ _ _ _ => true
  | _ => false
theorem all_split {L : List Jvm.Cond} {P : Jvm.Cond → Bool} (h1 : L.all (fun c => isCode c || P c) = true) (h2 : ∀ c ∈ L.filter isCode, P c = true) : L.all P = true := by
  refine List.all_eq_true.mpr fun c hc => ?_
  have h := List.all_eq_true.mp h1 c hc
  rcases Bool.eq_false_or_eq_true (isCode c) with hi | hi
  · exact h2 c (List.mem_filter.mpr ⟨hc, hi⟩)
  · simpa [hi] using h
set_option maxRecDepth 65536 in
theorem w_c0 : (Jvm.Cond.code x code maxLocals ret).before args0 about1 = true := code_word (m := ⟨1, 4⟩) (meth := k1m4) (c := k1c4) (by decide +kernel) rfl rfl rfl (by decide +kernel)
set_option maxRecDepth 65536 in
theorem w_c1 : (Jvm.Cond.code ({ cls := "com/example/tidemark/tidemark/input/WordsAllDigitsPinLaw", name := "pick", desc := "(JJII)J" } : Jvm.MethodName) method_4_code (8 : Nat) (Option.some Jvm.ClassFile.FieldType.long)).before args0 about1 = true := code_word (m := ⟨1, 3⟩) (meth := k1m3) (c := k1c3) (by decide +kernel) rfl rfl rfl (by decide +kernel)
set_option maxRecDepth 65536 in
theorem w_c2 : (Jvm.Cond.code ({ cls := "com/example/tidemark/tidemark/input/WordsAllDigitsPinLaw", name := "byteAt", desc := "(JI)J" } : Jvm.MethodName) method_2_code (3 : Nat) (Option.some Jvm.ClassFile.FieldType.long)).before args0 about1 = true := code_word (m := ⟨1, 1⟩) (meth := k1m1) (c := k1c1) (by decide +kernel) rfl rfl rfl (by decide +kernel)
set_option maxRecDepth 65536 in
theorem w_c3 : (Jvm.Cond.code ({ cls := "com/example/tidemark/tidemark/input/WordsAllDigitsPinLaw", name := "isDigit", desc := "(J)Z" } : Jvm.MethodName) method_3_code (2 : Nat) (Option.some Jvm.ClassFile.FieldType.boolean)).before args0 about1 = true := code_word (m := ⟨1, 2⟩) (meth := k1m2) (c := k1c2) (by decide +kernel) rfl rfl rfl (by decide +kernel)
set_option maxRecDepth 65536 in
theorem w_c4 : (Jvm.Cond.code ({ cls := "com/example/tidemark/tidemark/input/Words", name := "allDigits", desc := "(J)Z" } : Jvm.MethodName) prog_94_method_6_code (2 : Nat) (Option.some Jvm.ClassFile.FieldType.boolean)).before args0 about1 = true := code_word (m := ⟨2, 1⟩) (meth := k2m1) (c := k2c1) (by decide +kernel) rfl rfl rfl (by decide +kernel)
def codes1 : List Jvm.Cond := [Jvm.Cond.code x code maxLocals ret, Jvm.Cond.code ({ cls := "com/example/tidemark/tidemark/input/WordsAllDigitsPinLaw", name := "pick", desc := "(JJII)J" } : Jvm.MethodName) method_4_code (8 : Nat) (Option.some Jvm.ClassFile.FieldType.long), Jvm.Cond.code ({ cls := "com/example/tidemark/tidemark/input/WordsAllDigitsPinLaw", name := "byteAt", desc := "(JI)J" } : Jvm.MethodName) method_2_code (3 : Nat) (Option.some Jvm.ClassFile.FieldType.long), Jvm.Cond.code ({ cls := "com/example/tidemark/tidemark/input/WordsAllDigitsPinLaw", name := "isDigit", desc := "(J)Z" } : Jvm.MethodName) method_3_code (2 : Nat) (Option.some Jvm.ClassFile.FieldType.boolean), Jvm.Cond.code ({ cls := "com/example/tidemark/tidemark/input/Words", name := "allDigits", desc := "(J)Z" } : Jvm.MethodName) prog_94_method_6_code (2 : Nat) (Option.some Jvm.ClassFile.FieldType.boolean)]
set_option maxRecDepth 65536 in
theorem codes_eq : words1.filter isCode = codes1 := rfl
theorem w_codes : ∀ c ∈ words1.filter isCode, c.before args0 about1 = true := by
  rw [codes_eq]
  intro c hc
  simp only [codes1, List.mem_cons, List.not_mem_nil, or_false] at hc
  rcases hc with rfl | rfl | rfl | rfl | rfl
  · exact w_c0
  · exact w_c1
  · exact w_c2
  · exact w_c3
  · exact w_c4
set_option maxRecDepth 65536 in
theorem w_t1 : words1.all (fun c => isCode c || c.before args0 about1) = true := by decide +kernel
theorem w_tables : (allAtoms (Jvm.Cond.code x code maxLocals ret :: tables_1)).before args0 about1 = true := by
  rw [allAtoms_all]
  show words1.all (fun c => c.before args0 about1) = true
  refine all_split ?_ w_codes
  rw [w_t1]
set_option maxRecDepth 65536 in
theorem w_case : (Jvm.Cond.and given_1 narrow_1).before args0 about1 = true := by decide +kernel
theorem w_applies : (headSpec (Jvm.Cond.code x code maxLocals ret :: tables_1) room_1).applies x e0.platform about1 = true :=
  (Spec.applies_iff w_frames).mpr ⟨w_running, w_runnable, w_alone, w_named, w_hears, w_ripe, w_room, w_tables⟩
theorem atStart : AtStart classFile x code maxLocals ret World_1 tables_1 room_1 Calls_1 rest_1 Pre_1 launch0 p0 e0 about1 theMethod args0 below0 :=
  ⟨lists_1, trivial, launch0.admits_env _ _ _, launch0.least_env, fairChoices_fair.cas, fairChoices_fair.clock, w_frames, w_args, w_heap, w_applies, trivial, trivial, w_case⟩
end start1
theorem witness_1 : WitnessClaimed_1 := ⟨start1.p0, start1.e0, start1.about1, start1.theMethod, start1.args0, start1.below0, start1.atStart⟩
end Jvm.Pilot.@@N@@
