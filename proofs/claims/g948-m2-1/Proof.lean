import JvmDerived
import JvmDerived.Pilot.@@N@@Statement
import JvmDerived.Pilot.@@N@@Code
set_option linter.unusedVariables false
set_option linter.unusedSimpArgs false
namespace Jvm.Pilot.@@N@@
open Jvm Jvm.ClassFile Sem Op Lib Jvm.Free Jvm.Stand Jvm.LawKit Jvm.RoadKit Bundle Jvm.Pilot.@@N@@.Jvm.D
abbrev Cx : Type := Program × Launch × Env × Room × State × MethodId × Array Value × List Frame × Method × Code
abbrev Cx.p (K : Cx) : Program := K.1
abbrev Cx.l (K : Cx) : Launch := K.2.1
abbrev Cx.e (K : Cx) : Env := K.2.2.1
abbrev Cx.R (K : Cx) : Room := K.2.2.2.1
abbrev Cx.s (K : Cx) : State := K.2.2.2.2.1
abbrev Cx.m (K : Cx) : MethodId := K.2.2.2.2.2.1
abbrev Cx.args (K : Cx) : Array Value := K.2.2.2.2.2.2.1
abbrev Cx.below (K : Cx) : List Frame := K.2.2.2.2.2.2.2.1
abbrev Cx.meth (K : Cx) : Method := K.2.2.2.2.2.2.2.2.1
abbrev Cx.c (K : Cx) : Code := K.2.2.2.2.2.2.2.2.2
/-- from T at this frame the body ends within the room, and what it leaves is Q's -/
def Go (K : Cx) (n0 kc kj : Nat) (Q : Option Value → Heap → Prop) (T : State) (pc : Nat) (Ls : Array Slot) (st : List Value) : Prop :=
  ∃ t o, Steps K.p.tables K.e K.below (T.setTop (mkF K.m pc Ls st)) t ∧ t.status = .running ∧ Ended t K.below o ∧ ∃ v L, o = .returned v ∧ (Q v t.heap ∧ Fr n0 L) ∧ FrameEnd K.s o t L kc kj
/-- where the walk stands: the body's own facts, the heap, how many cells and slots have been made -/
def St (K : Cx) (Z : State) (own : String) (b : ByteArray) (mx : Nat) (ret : Option FieldType) (rm : Room) (n0 k j : Nat) (T : State) (h : Heap) : Prop :=
  K.p.tables.exec = Jvm.exec ∧ Z.Warmed39 K.s.vm ∧ K.s.vm.findClass own = some K.m.cls ∧ K.c.code = b ∧ K.c.maxLocals = mx ∧ K.meth.sig.returnType = ret ∧ K.meth.locks = false ∧ K.R = rm ∧ T.heap = h ∧
    ∃ locs, Stand K.p K.l K.e K.R K.s K.m K.args K.below K.meth K.c T locs k j ∧ Fr n0 locs
def Isn (b : ByteArray) (pc : Nat) (i : Instr) (n pc' : Nat) : Prop := decode b pc = .ok (i, n) ∧ pc + n = pc'
def Brn (b : ByteArray) (pc : Nat) (i : Instr) (o : Int) (pc' tg : Nat) : Prop := decode b pc = .ok (i, 3) ∧ pc + 3 = pc' ∧ 0 ≤ (pc : Int) + o ∧ ((pc : Int) + o).toNat = tg
/-- a body's contract, at its arguments and heap -/
def CtrW (l : Launch) (Z : State) (y : MethodName) (b : ByteArray) (mx : Nat) (ret : Option FieldType) (ws : List Jvm.Cond) (rm : Room) (kc kj : Nat) (as' : List Value) (h : Heap) (n0 : Nat) (Q : Option Value → Heap → Prop) : Prop :=
  MetFree l y (head1 (Jvm.Cond.code y b mx ret :: ws) rm) (fun a U => a = as'.toArray ∧ Z.Warmed39 U.vm ∧ U.heap = h) (fun _ _ _ _ _ => True) (fun _ U o U' => ∃ v L, o = .returned v ∧ (Q v U'.heap ∧ Fr n0 L) ∧ FrameEnd U o U' L kc kj)
abbrev Ctr (l : Launch) (Z : State) (y : MethodName) (b : ByteArray) (mx : Nat) (ret : Option FieldType) (rm : Room) (as' : List Value) (h : Heap) (n0 : Nat) (Q : Option Value → Heap → Prop) : Prop :=
  CtrW l Z y b mx ret [] rm rm.cells rm.slots as' h n0 Q
section OwnKit
variable {K : Cx} {Z : State} {own : String} {b : ByteArray} {mx : Nat} {ret : Option FieldType} {rm : Room} {n0 k j kc kj : Nat} {T : State} {h : Heap} {Q : Option Value → Heap → Prop} {pc pc' tg : Nat} {Ls Ls' : Array Slot} {st rest : List Value} {a0 : Array Value}
theorem St.ex (X : St K Z own b mx ret rm n0 k j T h) : K.p.tables.exec = Jvm.exec := X.1
theorem St.wZ (X : St K Z own b mx ret rm n0 k j T h) : Z.Warmed39 K.s.vm := X.2.1
theorem St.ow (X : St K Z own b mx ret rm n0 k j T h) : K.s.vm.findClass own = some K.m.cls := X.2.2.1
theorem St.dec (X : St K Z own b mx ret rm n0 k j T h) {r : Except DecodeError (Instr × Nat)} (d : decode b pc = r) : decode K.c.code pc = r := hb X.2.2.2.1 d
theorem St.ml (X : St K Z own b mx ret rm n0 k j T h) : K.c.maxLocals = mx := X.2.2.2.2.1
theorem St.rt (X : St K Z own b mx ret rm n0 k j T h) : K.meth.sig.returnType = ret := X.2.2.2.2.2.1
theorem St.nl (X : St K Z own b mx ret rm n0 k j T h) : K.meth.locks = false := X.2.2.2.2.2.2.1
theorem St.rmE (X : St K Z own b mx ret rm n0 k j T h) : K.R = rm := X.2.2.2.2.2.2.2.1
theorem St.hp (X : St K Z own b mx ret rm n0 k j T h) : T.heap = h := X.2.2.2.2.2.2.2.2.1
theorem St.sd (X : St K Z own b mx ret rm n0 k j T h) : ∃ locs, Stand K.p K.l K.e K.R K.s K.m K.args K.below K.meth K.c T locs k j ∧ Fr n0 locs := X.2.2.2.2.2.2.2.2.2
theorem St.here (X : St K Z own b mx ret rm n0 k j T h) : At T K.m K.c K.below := by obtain ⟨_, S, _⟩ := X.sd; exact S.here
theorem St.mk' (X : St K Z own b mx ret rm n0 k j T h) {T' : State} {h' : Heap} {k' j' : Nat} {locs : List Loc} (S : Stand K.p K.l K.e K.R K.s K.m K.args K.below K.meth K.c T' locs k' j') (N : Fr n0 locs) (q : T'.heap = h') : St K Z own b mx ret rm n0 k' j' T' h' :=
  ⟨X.1, X.2.1, X.2.2.1, X.2.2.2.1, X.2.2.2.2.1, X.2.2.2.2.2.1, X.2.2.2.2.2.2.1, X.2.2.2.2.2.2.2.1, q, _, S, N⟩
theorem St.more (X : St K Z own b mx ret rm n0 k j T h) {k' j' : Nat} (hk : k ≤ k') (hj : j ≤ j') : St K Z own b mx ret rm n0 k' j' T h := by
  obtain ⟨_, S, N⟩ := X.sd; exact X.mk' (S.more hk hj) N X.hp
theorem St.eqh (X : St K Z own b mx ret rm n0 k j T h) {h' : Heap} (q : h = h') : St K Z own b mx ret rm n0 k j T h' := q ▸ X
theorem o_go {T' : State} {st' : List Value} (f : ∀ t, Steps K.p.tables K.e K.below (T'.setTop (mkF K.m pc' Ls' st')) t → Steps K.p.tables K.e K.below (T.setTop (mkF K.m pc Ls st)) t) (g : Go K n0 kc kj Q T' pc' Ls' st') : Go K n0 kc kj Q T pc Ls st := by
  obtain ⟨t, o, h1, h2⟩ := g; exact ⟨t, o, f t h1, h2⟩
theorem Go.imp {Q' : Option Value → Heap → Prop} (g : Go K n0 kc kj Q T pc Ls st) (f : ∀ v h, Q v h → Q' v h) : Go K n0 kc kj Q' T pc Ls st := by
  obtain ⟨t, o, h1, h2, h3, v, L, h4, ⟨h5, h6⟩, h7⟩ := g; exact ⟨t, o, h1, h2, h3, v, L, h4, ⟨f _ _ h5, h6⟩, h7⟩
theorem o_v1 {v : Value} (g : Go K n0 kc kj Q T pc Ls (v :: rest)) : Go K n0 kc kj Q T pc Ls ((some v).toList ++ rest) := g
theorem o_v0 (g : Go K n0 kc kj Q T pc Ls rest) : Go K n0 kc kj Q T pc Ls ((none : Option Value).toList ++ rest) := g
theorem o_st {st' : List Value} (q : st = st') (g : Go K n0 kc kj Q T pc Ls st') : Go K n0 kc kj Q T pc Ls st := q ▸ g
theorem o_gen {x : Int32} (g : ∀ z, z = x → Go K n0 kc kj Q T pc Ls (.int z :: rest)) : Go K n0 kc kj Q T pc Ls (.int x :: rest) := g x rfl
theorem o_genL {x : Int64} (g : ∀ z, z = x → Go K n0 kc kj Q T pc Ls (.long z :: rest)) : Go K n0 kc kj Q T pc Ls (.long x :: rest) := g x rfl
theorem o_cutL (pj : Nat) (z : Int64) {x : Int32} (B : Go K n0 kc kj Q T pj Ls (.long z :: rest) → Go K n0 kc kj Q T pc Ls (.int x :: rest)) (J : Go K n0 kc kj Q T pj Ls (.long z :: rest)) : Go K n0 kc kj Q T pc Ls (.int x :: rest) := B J
theorem o_cutI (pj : Nat) (z : Int32) {x : Int32} (B : Go K n0 kc kj Q T pj Ls (.int z :: rest) → Go K n0 kc kj Q T pc Ls (.int x :: rest)) (J : Go K n0 kc kj Q T pj Ls (.int z :: rest)) : Go K n0 kc kj Q T pc Ls (.int x :: rest) := B J
theorem o_cutI2 (pj : Nat) (z : Int32) {x y : Int32} (B : Go K n0 kc kj Q T pj Ls (.int z :: rest) → Go K n0 kc kj Q T pc Ls (.int y :: .int x :: rest)) (J : Go K n0 kc kj Q T pj Ls (.int z :: rest)) : Go K n0 kc kj Q T pc Ls (.int y :: .int x :: rest) := B J
theorem o_cutS (pj : Nat) {x : Int32} (X : St K Z own b mx ret rm n0 k j T h) (B : (∀ T' z, St K Z own b mx ret rm n0 k j T' h → Go K n0 kc kj Q T' pj Ls (.int z :: rest)) → Go K n0 kc kj Q T pc Ls (.int x :: rest)) (J : ∀ T' z, St K Z own b mx ret rm n0 k j T' h → Go K n0 kc kj Q T' pj Ls (.int z :: rest)) : Go K n0 kc kj Q T pc Ls (.int x :: rest) := B J
theorem o_cutI2L (pj : Nat) (z : Int64) {x y : Int32} (B : Go K n0 kc kj Q T pj Ls (.long z :: rest) → Go K n0 kc kj Q T pc Ls (.int y :: .int x :: rest)) (J : Go K n0 kc kj Q T pj Ls (.long z :: rest)) : Go K n0 kc kj Q T pc Ls (.int y :: .int x :: rest) := B J
theorem o_ls (q : Ls = Ls') (g : Go K n0 kc kj Q T pc Ls' st) : Go K n0 kc kj Q T pc Ls st := q ▸ g
theorem o_iadd (X : St K Z own b mx ret rm n0 k j T h) {x y : Int32} (d : Isn b pc (.iadd) 1 pc') (g : Go K n0 kc kj Q T pc' Ls (.int (x + y) :: rest)) : Go K n0 kc kj Q T pc Ls (.int y :: .int x :: rest) := by
  obtain ⟨d, rfl⟩ := d; exact o_go (fun t k => XS.iadd X.here X.ex rfl (X.dec d) rfl k) g
theorem o_isub (X : St K Z own b mx ret rm n0 k j T h) {x y : Int32} (d : Isn b pc (.isub) 1 pc') (g : Go K n0 kc kj Q T pc' Ls (.int (x - y) :: rest)) : Go K n0 kc kj Q T pc Ls (.int y :: .int x :: rest) := by
  obtain ⟨d, rfl⟩ := d; exact o_go (fun t k => XS.isub X.here X.ex rfl (X.dec d) rfl k) g
theorem o_imul (X : St K Z own b mx ret rm n0 k j T h) {x y : Int32} (d : Isn b pc (.imul) 1 pc') (g : Go K n0 kc kj Q T pc' Ls (.int (x * y) :: rest)) : Go K n0 kc kj Q T pc Ls (.int y :: .int x :: rest) := by
  obtain ⟨d, rfl⟩ := d; exact o_go (fun t k => XS.imul X.here X.ex rfl (X.dec d) rfl k) g
theorem o_iand (X : St K Z own b mx ret rm n0 k j T h) {x y : Int32} (d : Isn b pc (.iand) 1 pc') (g : Go K n0 kc kj Q T pc' Ls (.int (x &&& y) :: rest)) : Go K n0 kc kj Q T pc Ls (.int y :: .int x :: rest) := by
  obtain ⟨d, rfl⟩ := d; exact o_go (fun t k => XS.iand X.here X.ex rfl (X.dec d) rfl k) g
theorem o_ixor (X : St K Z own b mx ret rm n0 k j T h) {x y : Int32} (d : Isn b pc (.ixor) 1 pc') (g : Go K n0 kc kj Q T pc' Ls (.int (x ^^^ y) :: rest)) : Go K n0 kc kj Q T pc Ls (.int y :: .int x :: rest) := by
  obtain ⟨d, rfl⟩ := d; exact o_go (fun t k => XT.ixor X.here X.ex rfl (X.dec d) rfl k) g
theorem o_ior (X : St K Z own b mx ret rm n0 k j T h) {x y : Int32} (d : Isn b pc (.ior) 1 pc') (g : Go K n0 kc kj Q T pc' Ls (.int (x ||| y) :: rest)) : Go K n0 kc kj Q T pc Ls (.int y :: .int x :: rest) := by
  obtain ⟨d, rfl⟩ := d; exact o_go (fun t k => XT.ior X.here X.ex rfl (X.dec d) rfl k) g
theorem o_ishl (X : St K Z own b mx ret rm n0 k j T h) {x y : Int32} (d : Isn b pc (.ishl) 1 pc') (g : Go K n0 kc kj Q T pc' Ls (.int (x <<< (y &&& 31)) :: rest)) : Go K n0 kc kj Q T pc Ls (.int y :: .int x :: rest) := by
  obtain ⟨d, rfl⟩ := d; exact o_go (fun t k => XT.ishl X.here X.ex rfl (X.dec d) rfl k) g
theorem o_ishr (X : St K Z own b mx ret rm n0 k j T h) {x y : Int32} (d : Isn b pc (.ishr) 1 pc') (g : Go K n0 kc kj Q T pc' Ls (.int (x >>> (y &&& 31)) :: rest)) : Go K n0 kc kj Q T pc Ls (.int y :: .int x :: rest) := by
  obtain ⟨d, rfl⟩ := d; exact o_go (fun t k => XT.ishr X.here X.ex rfl (X.dec d) rfl k) g
theorem o_iushr (X : St K Z own b mx ret rm n0 k j T h) {x y : Int32} (d : Isn b pc (.iushr) 1 pc') (g : Go K n0 kc kj Q T pc' Ls (.int (XT.ushr x y) :: rest)) : Go K n0 kc kj Q T pc Ls (.int y :: .int x :: rest) := by
  obtain ⟨d, rfl⟩ := d; exact o_go (fun t k => XT.iushr X.here X.ex rfl (X.dec d) rfl k) g
theorem o_ladd (X : St K Z own b mx ret rm n0 k j T h) {x y : Int64} (d : Isn b pc (.ladd) 1 pc') (g : Go K n0 kc kj Q T pc' Ls (.long (x + y) :: rest)) : Go K n0 kc kj Q T pc Ls (.long y :: .long x :: rest) := by
  obtain ⟨d, rfl⟩ := d; exact o_go (fun t k => XT.ladd X.here X.ex rfl (X.dec d) rfl k) g
theorem o_lsub (X : St K Z own b mx ret rm n0 k j T h) {x y : Int64} (d : Isn b pc (.lsub) 1 pc') (g : Go K n0 kc kj Q T pc' Ls (.long (x - y) :: rest)) : Go K n0 kc kj Q T pc Ls (.long y :: .long x :: rest) := by
  obtain ⟨d, rfl⟩ := d; exact o_go (fun t k => XT.lsub X.here X.ex rfl (X.dec d) rfl k) g
theorem o_lmul (X : St K Z own b mx ret rm n0 k j T h) {x y : Int64} (d : Isn b pc (.lmul) 1 pc') (g : Go K n0 kc kj Q T pc' Ls (.long (x * y) :: rest)) : Go K n0 kc kj Q T pc Ls (.long y :: .long x :: rest) := by
  obtain ⟨d, rfl⟩ := d; exact o_go (fun t k => XT.lmul X.here X.ex rfl (X.dec d) rfl k) g
theorem o_land (X : St K Z own b mx ret rm n0 k j T h) {x y : Int64} (d : Isn b pc (.land) 1 pc') (g : Go K n0 kc kj Q T pc' Ls (.long (x &&& y) :: rest)) : Go K n0 kc kj Q T pc Ls (.long y :: .long x :: rest) := by
  obtain ⟨d, rfl⟩ := d; exact o_go (fun t k => XT.land X.here X.ex rfl (X.dec d) rfl k) g
theorem o_lor (X : St K Z own b mx ret rm n0 k j T h) {x y : Int64} (d : Isn b pc (.lor) 1 pc') (g : Go K n0 kc kj Q T pc' Ls (.long (x ||| y) :: rest)) : Go K n0 kc kj Q T pc Ls (.long y :: .long x :: rest) := by
  obtain ⟨d, rfl⟩ := d; exact o_go (fun t k => XT.lor X.here X.ex rfl (X.dec d) rfl k) g
theorem o_lxor (X : St K Z own b mx ret rm n0 k j T h) {x y : Int64} (d : Isn b pc (.lxor) 1 pc') (g : Go K n0 kc kj Q T pc' Ls (.long (x ^^^ y) :: rest)) : Go K n0 kc kj Q T pc Ls (.long y :: .long x :: rest) := by
  obtain ⟨d, rfl⟩ := d; exact o_go (fun t k => XT.lxor X.here X.ex rfl (X.dec d) rfl k) g
theorem o_lshl (X : St K Z own b mx ret rm n0 k j T h) {x : Int64} {y : Int32} (d : Isn b pc (.lshl) 1 pc') (g : Go K n0 kc kj Q T pc' Ls (.long (x <<< (y.toInt64 &&& 63)) :: rest)) : Go K n0 kc kj Q T pc Ls (.int y :: .long x :: rest) := by
  obtain ⟨d, rfl⟩ := d; exact o_go (fun t k => XT.lshl X.here X.ex rfl (X.dec d) rfl k) g
theorem o_lshr (X : St K Z own b mx ret rm n0 k j T h) {x : Int64} {y : Int32} (d : Isn b pc (.lshr) 1 pc') (g : Go K n0 kc kj Q T pc' Ls (.long (x >>> (y.toInt64 &&& 63)) :: rest)) : Go K n0 kc kj Q T pc Ls (.int y :: .long x :: rest) := by
  obtain ⟨d, rfl⟩ := d; exact o_go (fun t k => XT.lshr X.here X.ex rfl (X.dec d) rfl k) g
theorem o_lushr (X : St K Z own b mx ret rm n0 k j T h) {x : Int64} {y : Int32} (d : Isn b pc (.lushr) 1 pc') (g : Go K n0 kc kj Q T pc' Ls (.long (XT.ushrL x y) :: rest)) : Go K n0 kc kj Q T pc Ls (.int y :: .long x :: rest) := by
  obtain ⟨d, rfl⟩ := d; exact o_go (fun t k => XT.lushr X.here X.ex rfl (X.dec d) rfl k) g
theorem o_lcmp (X : St K Z own b mx ret rm n0 k j T h) {x y : Int64} (d : Isn b pc (.lcmp) 1 pc') (g : Go K n0 kc kj Q T pc' Ls (.int (XT.cmpL x y) :: rest)) : Go K n0 kc kj Q T pc Ls (.long y :: .long x :: rest) := by
  obtain ⟨d, rfl⟩ := d; exact o_go (fun t k => XT.lcmp X.here X.ex rfl (X.dec d) rfl k) g
theorem o_idiv (X : St K Z own b mx ret rm n0 k j T h) {x y : Int32} (d : Isn b pc (.idiv) 1 pc') (hy : y ≠ 0) (g : Go K n0 kc kj Q T pc' Ls (.int (x / y) :: rest)) : Go K n0 kc kj Q T pc Ls (.int y :: .int x :: rest) := by
  obtain ⟨d, rfl⟩ := d; exact o_go (fun t k => XS.idiv X.here X.ex rfl (X.dec d) rfl hy k) g
theorem o_ldiv (X : St K Z own b mx ret rm n0 k j T h) {x y : Int64} (d : Isn b pc (.ldiv) 1 pc') (hy : y ≠ 0) (g : Go K n0 kc kj Q T pc' Ls (.long (x / y) :: rest)) : Go K n0 kc kj Q T pc Ls (.long y :: .long x :: rest) := by
  obtain ⟨d, rfl⟩ := d; exact o_go (fun t k => XT.ldiv X.here X.ex rfl (X.dec d) rfl hy k) g
theorem o_irem (X : St K Z own b mx ret rm n0 k j T h) {x y : Int32} (d : Isn b pc .irem 1 pc') (hy : y ≠ 0) (g : Go K n0 kc kj Q T pc' Ls (.int (x % y) :: rest)) : Go K n0 kc kj Q T pc Ls (.int y :: .int x :: rest) := by
  obtain ⟨d, rfl⟩ := d; obtain ⟨_, S, _⟩ := X.sd; exact o_go (fun t k => iremM S X.ex rfl (X.dec d) rfl hy k) g
theorem o_lrem (X : St K Z own b mx ret rm n0 k j T h) {x y : Int64} (d : Isn b pc .lrem 1 pc') (hy : y ≠ 0) (g : Go K n0 kc kj Q T pc' Ls (.long (x % y) :: rest)) : Go K n0 kc kj Q T pc Ls (.long y :: .long x :: rest) := by
  obtain ⟨d, rfl⟩ := d; rw [← lrem_mod] at g; exact o_go (fun t k => XT.lrem X.here X.ex rfl (X.dec d) rfl hy k) g
theorem o_i2l (X : St K Z own b mx ret rm n0 k j T h) {x : Int32} (d : Isn b pc (.i2l) 1 pc') (g : Go K n0 kc kj Q T pc' Ls (.long (x.toInt64) :: rest)) : Go K n0 kc kj Q T pc Ls (.int x :: rest) := by
  obtain ⟨d, rfl⟩ := d; exact o_go (fun t k => XT.i2l X.here X.ex rfl (X.dec d) rfl k) g
theorem o_l2i (X : St K Z own b mx ret rm n0 k j T h) {x : Int64} (d : Isn b pc (.l2i) 1 pc') (g : Go K n0 kc kj Q T pc' Ls (.int (x.toInt32) :: rest)) : Go K n0 kc kj Q T pc Ls (.long x :: rest) := by
  obtain ⟨d, rfl⟩ := d; exact o_go (fun t k => XT.l2i X.here X.ex rfl (X.dec d) rfl k) g
theorem o_i2b (X : St K Z own b mx ret rm n0 k j T h) {x : Int32} (d : Isn b pc (.i2b) 1 pc') (g : Go K n0 kc kj Q T pc' Ls (.int (x.toInt8.toInt32) :: rest)) : Go K n0 kc kj Q T pc Ls (.int x :: rest) := by
  obtain ⟨d, rfl⟩ := d; exact o_go (fun t k => XT.i2b X.here X.ex rfl (X.dec d) rfl k) g
theorem o_i2c (X : St K Z own b mx ret rm n0 k j T h) {x : Int32} (d : Isn b pc (.i2c) 1 pc') (g : Go K n0 kc kj Q T pc' Ls (.int (x.toUInt32.toUInt16.toUInt32.toInt32) :: rest)) : Go K n0 kc kj Q T pc Ls (.int x :: rest) := by
  obtain ⟨d, rfl⟩ := d; exact o_go (fun t k => XT.i2c X.here X.ex rfl (X.dec d) rfl k) g
theorem o_i2s (X : St K Z own b mx ret rm n0 k j T h) {x : Int32} (d : Isn b pc (.i2s) 1 pc') (g : Go K n0 kc kj Q T pc' Ls (.int (x.toInt16.toInt32) :: rest)) : Go K n0 kc kj Q T pc Ls (.int x :: rest) := by
  obtain ⟨d, rfl⟩ := d; exact o_go (fun t k => XT.i2s X.here X.ex rfl (X.dec d) rfl k) g
theorem o_ineg (X : St K Z own b mx ret rm n0 k j T h) {x : Int32} (d : Isn b pc (.ineg) 1 pc') (g : Go K n0 kc kj Q T pc' Ls (.int (-x) :: rest)) : Go K n0 kc kj Q T pc Ls (.int x :: rest) := by
  obtain ⟨d, rfl⟩ := d; exact o_go (fun t k => XS.ineg X.here X.ex rfl (X.dec d) rfl k) g
theorem o_lneg (X : St K Z own b mx ret rm n0 k j T h) {x : Int64} (d : Isn b pc (.lneg) 1 pc') (g : Go K n0 kc kj Q T pc' Ls (.long (-x) :: rest)) : Go K n0 kc kj Q T pc Ls (.long x :: rest) := by
  obtain ⟨d, rfl⟩ := d; exact o_go (fun t k => XT.lneg X.here X.ex rfl (X.dec d) rfl k) g
theorem o_iload_n (X : St K Z own b mx ret rm n0 k j T h) {i : Fin 4} {v : Int32} (d : Isn b pc (.iload_n i) 1 pc') (hl : Ls[i.val]? = some (.val (.int v))) (g : Go K n0 kc kj Q T pc' Ls (.int v :: st)) : Go K n0 kc kj Q T pc Ls (st) := by
  obtain ⟨d, rfl⟩ := d; exact o_go (fun t k => XS.iloadN X.here X.ex rfl (X.dec d) hl k) g
theorem o_iload (X : St K Z own b mx ret rm n0 k j T h) {i : Nat} {v : Int32} (d : Isn b pc (.iload i) 2 pc') (hl : Ls[i]? = some (.val (.int v))) (g : Go K n0 kc kj Q T pc' Ls (.int v :: st)) : Go K n0 kc kj Q T pc Ls (st) := by
  obtain ⟨d, rfl⟩ := d; exact o_go (fun t k => XS.iload X.here X.ex rfl (X.dec d) hl k) g
theorem o_lload_n (X : St K Z own b mx ret rm n0 k j T h) {i : Fin 4} {v : Int64} (d : Isn b pc (.lload_n i) 1 pc') (hl : Ls[i.val]? = some (.val (.long v))) (g : Go K n0 kc kj Q T pc' Ls (.long v :: st)) : Go K n0 kc kj Q T pc Ls (st) := by
  obtain ⟨d, rfl⟩ := d; exact o_go (fun t k => XT.lloadN X.here X.ex rfl (X.dec d) hl k) g
theorem o_lload (X : St K Z own b mx ret rm n0 k j T h) {i : Nat} {v : Int64} (d : Isn b pc (.lload i) 2 pc') (hl : Ls[i]? = some (.val (.long v))) (g : Go K n0 kc kj Q T pc' Ls (.long v :: st)) : Go K n0 kc kj Q T pc Ls (st) := by
  obtain ⟨d, rfl⟩ := d; exact o_go (fun t k => XT.lload X.here X.ex rfl (X.dec d) hl k) g
theorem o_aload_n (X : St K Z own b mx ret rm n0 k j T h) {i : Fin 4} {v : Value} (d : Isn b pc (.aload_n i) 1 pc') (hl : Ls[i.val]? = some (.val v)) (hv : v.isRef = true) (g : Go K n0 kc kj Q T pc' Ls (v :: st)) : Go K n0 kc kj Q T pc Ls (st) := by
  obtain ⟨d, rfl⟩ := d; exact o_go (fun t k => XS.aloadN X.here X.ex rfl (X.dec d) hl hv k) g
theorem o_aload (X : St K Z own b mx ret rm n0 k j T h) {i : Nat} {v : Value} (d : Isn b pc (.aload i) 2 pc') (hl : Ls[i]? = some (.val v)) (hv : v.isRef = true) (g : Go K n0 kc kj Q T pc' Ls (v :: st)) : Go K n0 kc kj Q T pc Ls (st) := by
  obtain ⟨d, rfl⟩ := d; exact o_go (fun t k => XS.aload X.here X.ex rfl (X.dec d) hl hv k) g
theorem o_istore_n (X : St K Z own b mx ret rm n0 k j T h) {i : Fin 4} {x : Int32} (d : Isn b pc (.istore_n i) 1 pc') (hl : storeLocals Ls i.val (.int x) = some Ls') (g : Go K n0 kc kj Q T pc' Ls' (rest)) : Go K n0 kc kj Q T pc Ls (.int x :: rest) := by
  obtain ⟨d, rfl⟩ := d; exact o_go (fun t k => XS.istoreN X.here X.ex rfl (X.dec d) rfl hl k) g
theorem o_istore (X : St K Z own b mx ret rm n0 k j T h) {i : Nat} {x : Int32} (d : Isn b pc (.istore i) 2 pc') (hl : storeLocals Ls i (.int x) = some Ls') (g : Go K n0 kc kj Q T pc' Ls' (rest)) : Go K n0 kc kj Q T pc Ls (.int x :: rest) := by
  obtain ⟨d, rfl⟩ := d; exact o_go (fun t k => XS.istore X.here X.ex rfl (X.dec d) rfl hl k) g
theorem o_lstore_n (X : St K Z own b mx ret rm n0 k j T h) {i : Fin 4} {x : Int64} (d : Isn b pc (.lstore_n i) 1 pc') (hl : storeLocals Ls i.val (.long x) = some Ls') (g : Go K n0 kc kj Q T pc' Ls' (rest)) : Go K n0 kc kj Q T pc Ls (.long x :: rest) := by
  obtain ⟨d, rfl⟩ := d; exact o_go (fun t k => XT.lstoreN X.here X.ex rfl (X.dec d) rfl hl k) g
theorem o_lstore (X : St K Z own b mx ret rm n0 k j T h) {i : Nat} {x : Int64} (d : Isn b pc (.lstore i) 2 pc') (hl : storeLocals Ls i (.long x) = some Ls') (g : Go K n0 kc kj Q T pc' Ls' (rest)) : Go K n0 kc kj Q T pc Ls (.long x :: rest) := by
  obtain ⟨d, rfl⟩ := d; exact o_go (fun t k => XT.lstore X.here X.ex rfl (X.dec d) rfl hl k) g
theorem o_astore_n (X : St K Z own b mx ret rm n0 k j T h) {i : Fin 4} {x : Value} (d : Isn b pc (.astore_n i) 1 pc') (hv : x.isRef = true) (hl : storeLocals Ls i.val x = some Ls') (g : Go K n0 kc kj Q T pc' Ls' (rest)) : Go K n0 kc kj Q T pc Ls (x :: rest) := by
  obtain ⟨d, rfl⟩ := d; exact o_go (fun t k => XS.astoreN X.here X.ex rfl (X.dec d) rfl hv hl k) g
theorem o_astore (X : St K Z own b mx ret rm n0 k j T h) {i : Nat} {x : Value} (d : Isn b pc (.astore i) 2 pc') (hv : x.isRef = true) (hl : storeLocals Ls i x = some Ls') (g : Go K n0 kc kj Q T pc' Ls' (rest)) : Go K n0 kc kj Q T pc Ls (x :: rest) := by
  obtain ⟨d, rfl⟩ := d; exact o_go (fun t k => XS.astore X.here X.ex rfl (X.dec d) rfl hv hl k) g
theorem o_iconst (v : Int32) (X : St K Z own b mx ret rm n0 k j T h) {i : Int} (d : Isn b pc (.iconst i) 1 pc') (hv : Int32.ofInt i = v) (g : Go K n0 kc kj Q T pc' Ls (.int v :: st)) : Go K n0 kc kj Q T pc Ls (st) := by
  obtain ⟨d, rfl⟩ := d; exact o_go (fun t k => XT.iconstV X.here X.ex rfl v (X.dec d) hv k) g
theorem o_bipush (v : Int32) (X : St K Z own b mx ret rm n0 k j T h) {i : Int} (d : Isn b pc (.bipush i) 2 pc') (hv : (Int8.ofInt i).toInt32 = v) (g : Go K n0 kc kj Q T pc' Ls (.int v :: st)) : Go K n0 kc kj Q T pc Ls (st) := by
  obtain ⟨d, rfl⟩ := d; exact o_go (fun t k => XT.bipushV X.here X.ex rfl v (X.dec d) hv k) g
theorem o_sipush (v : Int32) (X : St K Z own b mx ret rm n0 k j T h) {i : Int} (d : Isn b pc (.sipush i) 3 pc') (hv : (Int16.ofInt i).toInt32 = v) (g : Go K n0 kc kj Q T pc' Ls (.int v :: st)) : Go K n0 kc kj Q T pc Ls (st) := by
  obtain ⟨d, rfl⟩ := d; exact o_go (fun t k => XT.sipushV X.here X.ex rfl v (X.dec d) hv k) g
theorem o_lconst (v : Int64) (X : St K Z own b mx ret rm n0 k j T h) {i : Fin 2} (d : Isn b pc (.lconst i) 1 pc') (hv : Int64.ofNat i = v) (g : Go K n0 kc kj Q T pc' Ls (.long v :: st)) : Go K n0 kc kj Q T pc Ls (st) := by
  obtain ⟨d, rfl⟩ := d; exact o_go (fun t k => XT.lconstV X.here X.ex rfl v (X.dec d) hv k) g
theorem o_aconst_null (X : St K Z own b mx ret rm n0 k j T h)  (d : Isn b pc (.aconst_null) 1 pc') (g : Go K n0 kc kj Q T pc' Ls (.null :: st)) : Go K n0 kc kj Q T pc Ls (st) := by
  obtain ⟨d, rfl⟩ := d; exact o_go (fun t k => XS.aconstNull X.here X.ex rfl (X.dec d)  k) g
theorem o_iinc (v : Int32) (X : St K Z own b mx ret rm n0 k j T h) {i : Nat} {cst : Int} {x : Int32} (d : Isn b pc (.iinc i cst) 3 pc') (hv : Int32.ofInt cst = v) (hl : Ls[i]? = some (.val (.int x))) (hl' : storeLocals Ls i (.int (x + v)) = some Ls') (g : Go K n0 kc kj Q T pc' Ls' (st)) : Go K n0 kc kj Q T pc Ls (st) := by
  obtain ⟨d, rfl⟩ := d; exact o_go (fun t k => XT.iincV X.here X.ex rfl v (X.dec d) hv hl hl' k) g
theorem o_ldc (X : St K Z own b mx ret rm n0 k j T h) {i : Nat} {v : Int32} (d : Isn b pc (.ldc i) 2 pc') (wd : (Jvm.Cond.constant own i v).before a0 Z = true) (g : Go K n0 kc kj Q T pc' Ls (.int v :: st)) : Go K n0 kc kj Q T pc Ls (st) := by
  obtain ⟨d, rfl⟩ := d; obtain ⟨_, S, _⟩ := X.sd; exact o_go (fun t k => S.ldcI X.ex X.ow (mvT X.wZ wd) rfl (X.dec d) k) g
theorem o_ldc2 (X : St K Z own b mx ret rm n0 k j T h) {i : Nat} {v : Int64} (d : Isn b pc (.ldc2_w i) 3 pc') (wd : (Jvm.Cond.constantLong own i v).before a0 Z = true) (g : Go K n0 kc kj Q T pc' Ls (.long v :: st)) : Go K n0 kc kj Q T pc Ls (st) := by
  obtain ⟨d, rfl⟩ := d; obtain ⟨_, S, _⟩ := X.sd; exact o_go (fun t k => S.ldc2J X.ex X.ow (mvT X.wZ wd) rfl (X.dec d) k) g
theorem o_dup (X : St K Z own b mx ret rm n0 k j T h) {x : Value} (d : Isn b pc (.dup) 1 pc') (hc : x.category = 1) (g : Go K n0 kc kj Q T pc' Ls (x :: x :: rest)) : Go K n0 kc kj Q T pc Ls (x :: rest) := by
  obtain ⟨d, rfl⟩ := d; exact o_go (fun t k => XS.dup X.here X.ex rfl (X.dec d) rfl hc k) g
theorem o_pop (X : St K Z own b mx ret rm n0 k j T h) {x : Value} (d : Isn b pc (.pop) 1 pc') (hc : x.category = 1) (g : Go K n0 kc kj Q T pc' Ls (rest)) : Go K n0 kc kj Q T pc Ls (x :: rest) := by
  obtain ⟨d, rfl⟩ := d; exact o_go (fun t k => XT.pop X.here X.ex rfl (X.dec d) rfl hc k) g
theorem o_dup2 (X : St K Z own b mx ret rm n0 k j T h) {x y : Value} (d : Isn b pc (.dup2) 1 pc') (hc : x.category = 1) (hc' : y.category = 1) (g : Go K n0 kc kj Q T pc' Ls (x :: y :: x :: y :: rest)) : Go K n0 kc kj Q T pc Ls (x :: y :: rest) := by
  obtain ⟨d, rfl⟩ := d; exact o_go (fun t k => XT.dup2 X.here X.ex rfl (X.dec d) rfl hc hc' k) g
theorem o_dup_x1 (X : St K Z own b mx ret rm n0 k j T h) {x y : Value} (d : Isn b pc (.dup_x1) 1 pc') (hc : x.category = 1) (hc' : y.category = 1) (g : Go K n0 kc kj Q T pc' Ls (x :: y :: x :: rest)) : Go K n0 kc kj Q T pc Ls (x :: y :: rest) := by
  obtain ⟨d, rfl⟩ := d; exact o_go (fun t k => XT.dupX1 X.here X.ex rfl (X.dec d) rfl hc hc' k) g
theorem o_dup2L (X : St K Z own b mx ret rm n0 k j T h) {x : Int64} (d : Isn b pc (.dup2) 1 pc') (g : Go K n0 kc kj Q T pc' Ls (.long x :: .long x :: rest)) : Go K n0 kc kj Q T pc Ls (.long x :: rest) := by
  obtain ⟨d, rfl⟩ := d; exact o_go (fun t k => XT.dup2L X.here X.ex rfl (X.dec d) rfl k) g
theorem o_goto (X : St K Z own b mx ret rm n0 k j T h) {o : Int} (d : Brn b pc (.goto o) o pc' tg) (g : Go K n0 kc kj Q T tg Ls (st)) : Go K n0 kc kj Q T pc Ls (st) := by
  obtain ⟨d, rfl, h1, h2⟩ := d; exact o_go (fun t k => XS.goto X.here X.ex rfl rfl (X.dec d) h1 h2 k) g
theorem o_icmp_eq_t (X : St K Z own b mx ret rm n0 k j T h) {x y : Int32} {o : Int} (d : Brn b pc (.if_icmp .eq o) o pc' tg) (q : x = y) (g : Go K n0 kc kj Q T tg Ls (rest)) : Go K n0 kc kj Q T pc Ls (.int y :: .int x :: rest) := by
  obtain ⟨d, rfl, h1, h2⟩ := d; exact o_go (fun t k => XS.icmpYes X.here X.ex rfl rfl (X.dec d) rfl (XT.ii_eq_t q) h1 h2 k) g
theorem o_icmp_eq_f (X : St K Z own b mx ret rm n0 k j T h) {x y : Int32} {o : Int} (d : Brn b pc (.if_icmp .eq o) o pc' tg) (q : ¬ x = y) (g : Go K n0 kc kj Q T pc' Ls (rest)) : Go K n0 kc kj Q T pc Ls (.int y :: .int x :: rest) := by
  obtain ⟨d, rfl, h1, h2⟩ := d; exact o_go (fun t k => XS.icmpNo X.here X.ex rfl (X.dec d) rfl (XT.ii_eq_f q) k) g
theorem o_icmp_eq (X : St K Z own b mx ret rm n0 k j T h) {x y : Int32} {o : Int} (d : Brn b pc (.if_icmp .eq o) o pc' tg) (gt : x = y → Go K n0 kc kj Q T tg Ls (rest)) (gf : ¬ x = y → Go K n0 kc kj Q T pc' Ls (rest)) : Go K n0 kc kj Q T pc Ls (.int y :: .int x :: rest) := by
  by_cases q : x = y
  · exact o_icmp_eq_t X d q (gt q)
  · exact o_icmp_eq_f X d q (gf q)
theorem o_if_eq_t (X : St K Z own b mx ret rm n0 k j T h) {x : Int32} {o : Int} (d : Brn b pc (.ifCond .eq o) o pc' tg) (q : x = 0) (g : Go K n0 kc kj Q T tg Ls (rest)) : Go K n0 kc kj Q T pc Ls (.int x :: rest) := by
  obtain ⟨d, rfl, h1, h2⟩ := d; exact o_go (fun t k => XS.ifYes X.here X.ex rfl rfl (X.dec d) rfl (XT.i0_eq_t q) h1 h2 k) g
theorem o_if_eq_f (X : St K Z own b mx ret rm n0 k j T h) {x : Int32} {o : Int} (d : Brn b pc (.ifCond .eq o) o pc' tg) (q : ¬ x = 0) (g : Go K n0 kc kj Q T pc' Ls (rest)) : Go K n0 kc kj Q T pc Ls (.int x :: rest) := by
  obtain ⟨d, rfl, h1, h2⟩ := d; exact o_go (fun t k => XS.ifNo X.here X.ex rfl (X.dec d) rfl (XT.i0_eq_f q) k) g
theorem o_if_eq (X : St K Z own b mx ret rm n0 k j T h) {x : Int32} {o : Int} (d : Brn b pc (.ifCond .eq o) o pc' tg) (gt : x = 0 → Go K n0 kc kj Q T tg Ls (rest)) (gf : ¬ x = 0 → Go K n0 kc kj Q T pc' Ls (rest)) : Go K n0 kc kj Q T pc Ls (.int x :: rest) := by
  by_cases q : x = 0
  · exact o_if_eq_t X d q (gt q)
  · exact o_if_eq_f X d q (gf q)
theorem o_lif_eq_t (X : St K Z own b mx ret rm n0 k j T h) {x y : Int64} {o : Int} (d : Brn b pc (.ifCond .eq o) o pc' tg) (q : x = y) (g : Go K n0 kc kj Q T tg Ls (rest)) : Go K n0 kc kj Q T pc Ls (.int (XT.cmpL x y) :: rest) := by
  obtain ⟨d, rfl, h1, h2⟩ := d; exact o_go (fun t k => XS.ifYes X.here X.ex rfl rfl (X.dec d) rfl (XT.ll_eq_t q) h1 h2 k) g
theorem o_lif_eq_f (X : St K Z own b mx ret rm n0 k j T h) {x y : Int64} {o : Int} (d : Brn b pc (.ifCond .eq o) o pc' tg) (q : ¬ x = y) (g : Go K n0 kc kj Q T pc' Ls (rest)) : Go K n0 kc kj Q T pc Ls (.int (XT.cmpL x y) :: rest) := by
  obtain ⟨d, rfl, h1, h2⟩ := d; exact o_go (fun t k => XS.ifNo X.here X.ex rfl (X.dec d) rfl (XT.ll_eq_f q) k) g
theorem o_lif_eq (X : St K Z own b mx ret rm n0 k j T h) {x y : Int64} {o : Int} (d : Brn b pc (.ifCond .eq o) o pc' tg) (gt : x = y → Go K n0 kc kj Q T tg Ls (rest)) (gf : ¬ x = y → Go K n0 kc kj Q T pc' Ls (rest)) : Go K n0 kc kj Q T pc Ls (.int (XT.cmpL x y) :: rest) := by
  by_cases q : x = y
  · exact o_lif_eq_t X d q (gt q)
  · exact o_lif_eq_f X d q (gf q)
theorem o_icmp_ne_t (X : St K Z own b mx ret rm n0 k j T h) {x y : Int32} {o : Int} (d : Brn b pc (.if_icmp .ne o) o pc' tg) (q : ¬ x = y) (g : Go K n0 kc kj Q T tg Ls (rest)) : Go K n0 kc kj Q T pc Ls (.int y :: .int x :: rest) := by
  obtain ⟨d, rfl, h1, h2⟩ := d; exact o_go (fun t k => XS.icmpYes X.here X.ex rfl rfl (X.dec d) rfl (XT.ii_ne_t q) h1 h2 k) g
theorem o_icmp_ne_f (X : St K Z own b mx ret rm n0 k j T h) {x y : Int32} {o : Int} (d : Brn b pc (.if_icmp .ne o) o pc' tg) (q : x = y) (g : Go K n0 kc kj Q T pc' Ls (rest)) : Go K n0 kc kj Q T pc Ls (.int y :: .int x :: rest) := by
  obtain ⟨d, rfl, h1, h2⟩ := d; exact o_go (fun t k => XS.icmpNo X.here X.ex rfl (X.dec d) rfl (XT.ii_ne_f q) k) g
theorem o_icmp_ne (X : St K Z own b mx ret rm n0 k j T h) {x y : Int32} {o : Int} (d : Brn b pc (.if_icmp .ne o) o pc' tg) (gt : ¬ x = y → Go K n0 kc kj Q T tg Ls (rest)) (gf : x = y → Go K n0 kc kj Q T pc' Ls (rest)) : Go K n0 kc kj Q T pc Ls (.int y :: .int x :: rest) := by
  by_cases q : x = y
  · exact o_icmp_ne_f X d q (gf q)
  · exact o_icmp_ne_t X d q (gt q)
theorem o_if_ne_t (X : St K Z own b mx ret rm n0 k j T h) {x : Int32} {o : Int} (d : Brn b pc (.ifCond .ne o) o pc' tg) (q : ¬ x = 0) (g : Go K n0 kc kj Q T tg Ls (rest)) : Go K n0 kc kj Q T pc Ls (.int x :: rest) := by
  obtain ⟨d, rfl, h1, h2⟩ := d; exact o_go (fun t k => XS.ifYes X.here X.ex rfl rfl (X.dec d) rfl (XT.i0_ne_t q) h1 h2 k) g
theorem o_if_ne_f (X : St K Z own b mx ret rm n0 k j T h) {x : Int32} {o : Int} (d : Brn b pc (.ifCond .ne o) o pc' tg) (q : x = 0) (g : Go K n0 kc kj Q T pc' Ls (rest)) : Go K n0 kc kj Q T pc Ls (.int x :: rest) := by
  obtain ⟨d, rfl, h1, h2⟩ := d; exact o_go (fun t k => XS.ifNo X.here X.ex rfl (X.dec d) rfl (XT.i0_ne_f q) k) g
theorem o_if_ne (X : St K Z own b mx ret rm n0 k j T h) {x : Int32} {o : Int} (d : Brn b pc (.ifCond .ne o) o pc' tg) (gt : ¬ x = 0 → Go K n0 kc kj Q T tg Ls (rest)) (gf : x = 0 → Go K n0 kc kj Q T pc' Ls (rest)) : Go K n0 kc kj Q T pc Ls (.int x :: rest) := by
  by_cases q : x = 0
  · exact o_if_ne_f X d q (gf q)
  · exact o_if_ne_t X d q (gt q)
theorem o_lif_ne_t (X : St K Z own b mx ret rm n0 k j T h) {x y : Int64} {o : Int} (d : Brn b pc (.ifCond .ne o) o pc' tg) (q : ¬ x = y) (g : Go K n0 kc kj Q T tg Ls (rest)) : Go K n0 kc kj Q T pc Ls (.int (XT.cmpL x y) :: rest) := by
  obtain ⟨d, rfl, h1, h2⟩ := d; exact o_go (fun t k => XS.ifYes X.here X.ex rfl rfl (X.dec d) rfl (XT.ll_ne_t q) h1 h2 k) g
theorem o_lif_ne_f (X : St K Z own b mx ret rm n0 k j T h) {x y : Int64} {o : Int} (d : Brn b pc (.ifCond .ne o) o pc' tg) (q : x = y) (g : Go K n0 kc kj Q T pc' Ls (rest)) : Go K n0 kc kj Q T pc Ls (.int (XT.cmpL x y) :: rest) := by
  obtain ⟨d, rfl, h1, h2⟩ := d; exact o_go (fun t k => XS.ifNo X.here X.ex rfl (X.dec d) rfl (XT.ll_ne_f q) k) g
theorem o_lif_ne (X : St K Z own b mx ret rm n0 k j T h) {x y : Int64} {o : Int} (d : Brn b pc (.ifCond .ne o) o pc' tg) (gt : ¬ x = y → Go K n0 kc kj Q T tg Ls (rest)) (gf : x = y → Go K n0 kc kj Q T pc' Ls (rest)) : Go K n0 kc kj Q T pc Ls (.int (XT.cmpL x y) :: rest) := by
  by_cases q : x = y
  · exact o_lif_ne_f X d q (gf q)
  · exact o_lif_ne_t X d q (gt q)
theorem o_icmp_lt_t (X : St K Z own b mx ret rm n0 k j T h) {x y : Int32} {o : Int} (d : Brn b pc (.if_icmp .lt o) o pc' tg) (q : x < y) (g : Go K n0 kc kj Q T tg Ls (rest)) : Go K n0 kc kj Q T pc Ls (.int y :: .int x :: rest) := by
  obtain ⟨d, rfl, h1, h2⟩ := d; exact o_go (fun t k => XS.icmpYes X.here X.ex rfl rfl (X.dec d) rfl (XT.ii_lt_t q) h1 h2 k) g
theorem o_icmp_lt_f (X : St K Z own b mx ret rm n0 k j T h) {x y : Int32} {o : Int} (d : Brn b pc (.if_icmp .lt o) o pc' tg) (q : ¬ x < y) (g : Go K n0 kc kj Q T pc' Ls (rest)) : Go K n0 kc kj Q T pc Ls (.int y :: .int x :: rest) := by
  obtain ⟨d, rfl, h1, h2⟩ := d; exact o_go (fun t k => XS.icmpNo X.here X.ex rfl (X.dec d) rfl (XT.ii_lt_f q) k) g
theorem o_icmp_lt (X : St K Z own b mx ret rm n0 k j T h) {x y : Int32} {o : Int} (d : Brn b pc (.if_icmp .lt o) o pc' tg) (gt : x < y → Go K n0 kc kj Q T tg Ls (rest)) (gf : ¬ x < y → Go K n0 kc kj Q T pc' Ls (rest)) : Go K n0 kc kj Q T pc Ls (.int y :: .int x :: rest) := by
  by_cases q : x < y
  · exact o_icmp_lt_t X d q (gt q)
  · exact o_icmp_lt_f X d q (gf q)
theorem o_if_lt_t (X : St K Z own b mx ret rm n0 k j T h) {x : Int32} {o : Int} (d : Brn b pc (.ifCond .lt o) o pc' tg) (q : x < 0) (g : Go K n0 kc kj Q T tg Ls (rest)) : Go K n0 kc kj Q T pc Ls (.int x :: rest) := by
  obtain ⟨d, rfl, h1, h2⟩ := d; exact o_go (fun t k => XS.ifYes X.here X.ex rfl rfl (X.dec d) rfl (XT.i0_lt_t q) h1 h2 k) g
theorem o_if_lt_f (X : St K Z own b mx ret rm n0 k j T h) {x : Int32} {o : Int} (d : Brn b pc (.ifCond .lt o) o pc' tg) (q : ¬ x < 0) (g : Go K n0 kc kj Q T pc' Ls (rest)) : Go K n0 kc kj Q T pc Ls (.int x :: rest) := by
  obtain ⟨d, rfl, h1, h2⟩ := d; exact o_go (fun t k => XS.ifNo X.here X.ex rfl (X.dec d) rfl (XT.i0_lt_f q) k) g
theorem o_if_lt (X : St K Z own b mx ret rm n0 k j T h) {x : Int32} {o : Int} (d : Brn b pc (.ifCond .lt o) o pc' tg) (gt : x < 0 → Go K n0 kc kj Q T tg Ls (rest)) (gf : ¬ x < 0 → Go K n0 kc kj Q T pc' Ls (rest)) : Go K n0 kc kj Q T pc Ls (.int x :: rest) := by
  by_cases q : x < 0
  · exact o_if_lt_t X d q (gt q)
  · exact o_if_lt_f X d q (gf q)
theorem o_lif_lt_t (X : St K Z own b mx ret rm n0 k j T h) {x y : Int64} {o : Int} (d : Brn b pc (.ifCond .lt o) o pc' tg) (q : x < y) (g : Go K n0 kc kj Q T tg Ls (rest)) : Go K n0 kc kj Q T pc Ls (.int (XT.cmpL x y) :: rest) := by
  obtain ⟨d, rfl, h1, h2⟩ := d; exact o_go (fun t k => XS.ifYes X.here X.ex rfl rfl (X.dec d) rfl (XT.ll_lt_t q) h1 h2 k) g
theorem o_lif_lt_f (X : St K Z own b mx ret rm n0 k j T h) {x y : Int64} {o : Int} (d : Brn b pc (.ifCond .lt o) o pc' tg) (q : ¬ x < y) (g : Go K n0 kc kj Q T pc' Ls (rest)) : Go K n0 kc kj Q T pc Ls (.int (XT.cmpL x y) :: rest) := by
  obtain ⟨d, rfl, h1, h2⟩ := d; exact o_go (fun t k => XS.ifNo X.here X.ex rfl (X.dec d) rfl (XT.ll_lt_f q) k) g
theorem o_lif_lt (X : St K Z own b mx ret rm n0 k j T h) {x y : Int64} {o : Int} (d : Brn b pc (.ifCond .lt o) o pc' tg) (gt : x < y → Go K n0 kc kj Q T tg Ls (rest)) (gf : ¬ x < y → Go K n0 kc kj Q T pc' Ls (rest)) : Go K n0 kc kj Q T pc Ls (.int (XT.cmpL x y) :: rest) := by
  by_cases q : x < y
  · exact o_lif_lt_t X d q (gt q)
  · exact o_lif_lt_f X d q (gf q)
theorem o_icmp_ge_t (X : St K Z own b mx ret rm n0 k j T h) {x y : Int32} {o : Int} (d : Brn b pc (.if_icmp .ge o) o pc' tg) (q : ¬ x < y) (g : Go K n0 kc kj Q T tg Ls (rest)) : Go K n0 kc kj Q T pc Ls (.int y :: .int x :: rest) := by
  obtain ⟨d, rfl, h1, h2⟩ := d; exact o_go (fun t k => XS.icmpYes X.here X.ex rfl rfl (X.dec d) rfl (XT.ii_ge_t q) h1 h2 k) g
theorem o_icmp_ge_f (X : St K Z own b mx ret rm n0 k j T h) {x y : Int32} {o : Int} (d : Brn b pc (.if_icmp .ge o) o pc' tg) (q : x < y) (g : Go K n0 kc kj Q T pc' Ls (rest)) : Go K n0 kc kj Q T pc Ls (.int y :: .int x :: rest) := by
  obtain ⟨d, rfl, h1, h2⟩ := d; exact o_go (fun t k => XS.icmpNo X.here X.ex rfl (X.dec d) rfl (XT.ii_ge_f q) k) g
theorem o_icmp_ge (X : St K Z own b mx ret rm n0 k j T h) {x y : Int32} {o : Int} (d : Brn b pc (.if_icmp .ge o) o pc' tg) (gt : ¬ x < y → Go K n0 kc kj Q T tg Ls (rest)) (gf : x < y → Go K n0 kc kj Q T pc' Ls (rest)) : Go K n0 kc kj Q T pc Ls (.int y :: .int x :: rest) := by
  by_cases q : x < y
  · exact o_icmp_ge_f X d q (gf q)
  · exact o_icmp_ge_t X d q (gt q)
theorem o_if_ge_t (X : St K Z own b mx ret rm n0 k j T h) {x : Int32} {o : Int} (d : Brn b pc (.ifCond .ge o) o pc' tg) (q : ¬ x < 0) (g : Go K n0 kc kj Q T tg Ls (rest)) : Go K n0 kc kj Q T pc Ls (.int x :: rest) := by
  obtain ⟨d, rfl, h1, h2⟩ := d; exact o_go (fun t k => XS.ifYes X.here X.ex rfl rfl (X.dec d) rfl (XT.i0_ge_t q) h1 h2 k) g
theorem o_if_ge_f (X : St K Z own b mx ret rm n0 k j T h) {x : Int32} {o : Int} (d : Brn b pc (.ifCond .ge o) o pc' tg) (q : x < 0) (g : Go K n0 kc kj Q T pc' Ls (rest)) : Go K n0 kc kj Q T pc Ls (.int x :: rest) := by
  obtain ⟨d, rfl, h1, h2⟩ := d; exact o_go (fun t k => XS.ifNo X.here X.ex rfl (X.dec d) rfl (XT.i0_ge_f q) k) g
theorem o_if_ge (X : St K Z own b mx ret rm n0 k j T h) {x : Int32} {o : Int} (d : Brn b pc (.ifCond .ge o) o pc' tg) (gt : ¬ x < 0 → Go K n0 kc kj Q T tg Ls (rest)) (gf : x < 0 → Go K n0 kc kj Q T pc' Ls (rest)) : Go K n0 kc kj Q T pc Ls (.int x :: rest) := by
  by_cases q : x < 0
  · exact o_if_ge_f X d q (gf q)
  · exact o_if_ge_t X d q (gt q)
theorem o_lif_ge_t (X : St K Z own b mx ret rm n0 k j T h) {x y : Int64} {o : Int} (d : Brn b pc (.ifCond .ge o) o pc' tg) (q : ¬ x < y) (g : Go K n0 kc kj Q T tg Ls (rest)) : Go K n0 kc kj Q T pc Ls (.int (XT.cmpL x y) :: rest) := by
  obtain ⟨d, rfl, h1, h2⟩ := d; exact o_go (fun t k => XS.ifYes X.here X.ex rfl rfl (X.dec d) rfl (XT.ll_ge_t q) h1 h2 k) g
theorem o_lif_ge_f (X : St K Z own b mx ret rm n0 k j T h) {x y : Int64} {o : Int} (d : Brn b pc (.ifCond .ge o) o pc' tg) (q : x < y) (g : Go K n0 kc kj Q T pc' Ls (rest)) : Go K n0 kc kj Q T pc Ls (.int (XT.cmpL x y) :: rest) := by
  obtain ⟨d, rfl, h1, h2⟩ := d; exact o_go (fun t k => XS.ifNo X.here X.ex rfl (X.dec d) rfl (XT.ll_ge_f q) k) g
theorem o_lif_ge (X : St K Z own b mx ret rm n0 k j T h) {x y : Int64} {o : Int} (d : Brn b pc (.ifCond .ge o) o pc' tg) (gt : ¬ x < y → Go K n0 kc kj Q T tg Ls (rest)) (gf : x < y → Go K n0 kc kj Q T pc' Ls (rest)) : Go K n0 kc kj Q T pc Ls (.int (XT.cmpL x y) :: rest) := by
  by_cases q : x < y
  · exact o_lif_ge_f X d q (gf q)
  · exact o_lif_ge_t X d q (gt q)
theorem o_icmp_gt_t (X : St K Z own b mx ret rm n0 k j T h) {x y : Int32} {o : Int} (d : Brn b pc (.if_icmp .gt o) o pc' tg) (q : y < x) (g : Go K n0 kc kj Q T tg Ls (rest)) : Go K n0 kc kj Q T pc Ls (.int y :: .int x :: rest) := by
  obtain ⟨d, rfl, h1, h2⟩ := d; exact o_go (fun t k => XS.icmpYes X.here X.ex rfl rfl (X.dec d) rfl (XT.ii_gt_t q) h1 h2 k) g
theorem o_icmp_gt_f (X : St K Z own b mx ret rm n0 k j T h) {x y : Int32} {o : Int} (d : Brn b pc (.if_icmp .gt o) o pc' tg) (q : ¬ y < x) (g : Go K n0 kc kj Q T pc' Ls (rest)) : Go K n0 kc kj Q T pc Ls (.int y :: .int x :: rest) := by
  obtain ⟨d, rfl, h1, h2⟩ := d; exact o_go (fun t k => XS.icmpNo X.here X.ex rfl (X.dec d) rfl (XT.ii_gt_f q) k) g
theorem o_icmp_gt (X : St K Z own b mx ret rm n0 k j T h) {x y : Int32} {o : Int} (d : Brn b pc (.if_icmp .gt o) o pc' tg) (gt : y < x → Go K n0 kc kj Q T tg Ls (rest)) (gf : ¬ y < x → Go K n0 kc kj Q T pc' Ls (rest)) : Go K n0 kc kj Q T pc Ls (.int y :: .int x :: rest) := by
  by_cases q : y < x
  · exact o_icmp_gt_t X d q (gt q)
  · exact o_icmp_gt_f X d q (gf q)
theorem o_if_gt_t (X : St K Z own b mx ret rm n0 k j T h) {x : Int32} {o : Int} (d : Brn b pc (.ifCond .gt o) o pc' tg) (q : 0 < x) (g : Go K n0 kc kj Q T tg Ls (rest)) : Go K n0 kc kj Q T pc Ls (.int x :: rest) := by
  obtain ⟨d, rfl, h1, h2⟩ := d; exact o_go (fun t k => XS.ifYes X.here X.ex rfl rfl (X.dec d) rfl (XT.i0_gt_t q) h1 h2 k) g
theorem o_if_gt_f (X : St K Z own b mx ret rm n0 k j T h) {x : Int32} {o : Int} (d : Brn b pc (.ifCond .gt o) o pc' tg) (q : ¬ 0 < x) (g : Go K n0 kc kj Q T pc' Ls (rest)) : Go K n0 kc kj Q T pc Ls (.int x :: rest) := by
  obtain ⟨d, rfl, h1, h2⟩ := d; exact o_go (fun t k => XS.ifNo X.here X.ex rfl (X.dec d) rfl (XT.i0_gt_f q) k) g
theorem o_if_gt (X : St K Z own b mx ret rm n0 k j T h) {x : Int32} {o : Int} (d : Brn b pc (.ifCond .gt o) o pc' tg) (gt : 0 < x → Go K n0 kc kj Q T tg Ls (rest)) (gf : ¬ 0 < x → Go K n0 kc kj Q T pc' Ls (rest)) : Go K n0 kc kj Q T pc Ls (.int x :: rest) := by
  by_cases q : 0 < x
  · exact o_if_gt_t X d q (gt q)
  · exact o_if_gt_f X d q (gf q)
theorem o_lif_gt_t (X : St K Z own b mx ret rm n0 k j T h) {x y : Int64} {o : Int} (d : Brn b pc (.ifCond .gt o) o pc' tg) (q : y < x) (g : Go K n0 kc kj Q T tg Ls (rest)) : Go K n0 kc kj Q T pc Ls (.int (XT.cmpL x y) :: rest) := by
  obtain ⟨d, rfl, h1, h2⟩ := d; exact o_go (fun t k => XS.ifYes X.here X.ex rfl rfl (X.dec d) rfl (XT.ll_gt_t q) h1 h2 k) g
theorem o_lif_gt_f (X : St K Z own b mx ret rm n0 k j T h) {x y : Int64} {o : Int} (d : Brn b pc (.ifCond .gt o) o pc' tg) (q : ¬ y < x) (g : Go K n0 kc kj Q T pc' Ls (rest)) : Go K n0 kc kj Q T pc Ls (.int (XT.cmpL x y) :: rest) := by
  obtain ⟨d, rfl, h1, h2⟩ := d; exact o_go (fun t k => XS.ifNo X.here X.ex rfl (X.dec d) rfl (XT.ll_gt_f q) k) g
theorem o_lif_gt (X : St K Z own b mx ret rm n0 k j T h) {x y : Int64} {o : Int} (d : Brn b pc (.ifCond .gt o) o pc' tg) (gt : y < x → Go K n0 kc kj Q T tg Ls (rest)) (gf : ¬ y < x → Go K n0 kc kj Q T pc' Ls (rest)) : Go K n0 kc kj Q T pc Ls (.int (XT.cmpL x y) :: rest) := by
  by_cases q : y < x
  · exact o_lif_gt_t X d q (gt q)
  · exact o_lif_gt_f X d q (gf q)
theorem o_icmp_le_t (X : St K Z own b mx ret rm n0 k j T h) {x y : Int32} {o : Int} (d : Brn b pc (.if_icmp .le o) o pc' tg) (q : ¬ y < x) (g : Go K n0 kc kj Q T tg Ls (rest)) : Go K n0 kc kj Q T pc Ls (.int y :: .int x :: rest) := by
  obtain ⟨d, rfl, h1, h2⟩ := d; exact o_go (fun t k => XS.icmpYes X.here X.ex rfl rfl (X.dec d) rfl (XT.ii_le_t q) h1 h2 k) g
theorem o_icmp_le_f (X : St K Z own b mx ret rm n0 k j T h) {x y : Int32} {o : Int} (d : Brn b pc (.if_icmp .le o) o pc' tg) (q : y < x) (g : Go K n0 kc kj Q T pc' Ls (rest)) : Go K n0 kc kj Q T pc Ls (.int y :: .int x :: rest) := by
  obtain ⟨d, rfl, h1, h2⟩ := d; exact o_go (fun t k => XS.icmpNo X.here X.ex rfl (X.dec d) rfl (XT.ii_le_f q) k) g
theorem o_icmp_le (X : St K Z own b mx ret rm n0 k j T h) {x y : Int32} {o : Int} (d : Brn b pc (.if_icmp .le o) o pc' tg) (gt : ¬ y < x → Go K n0 kc kj Q T tg Ls (rest)) (gf : y < x → Go K n0 kc kj Q T pc' Ls (rest)) : Go K n0 kc kj Q T pc Ls (.int y :: .int x :: rest) := by
  by_cases q : y < x
  · exact o_icmp_le_f X d q (gf q)
  · exact o_icmp_le_t X d q (gt q)
theorem o_if_le_t (X : St K Z own b mx ret rm n0 k j T h) {x : Int32} {o : Int} (d : Brn b pc (.ifCond .le o) o pc' tg) (q : ¬ 0 < x) (g : Go K n0 kc kj Q T tg Ls (rest)) : Go K n0 kc kj Q T pc Ls (.int x :: rest) := by
  obtain ⟨d, rfl, h1, h2⟩ := d; exact o_go (fun t k => XS.ifYes X.here X.ex rfl rfl (X.dec d) rfl (XT.i0_le_t q) h1 h2 k) g
theorem o_if_le_f (X : St K Z own b mx ret rm n0 k j T h) {x : Int32} {o : Int} (d : Brn b pc (.ifCond .le o) o pc' tg) (q : 0 < x) (g : Go K n0 kc kj Q T pc' Ls (rest)) : Go K n0 kc kj Q T pc Ls (.int x :: rest) := by
  obtain ⟨d, rfl, h1, h2⟩ := d; exact o_go (fun t k => XS.ifNo X.here X.ex rfl (X.dec d) rfl (XT.i0_le_f q) k) g
theorem o_if_le (X : St K Z own b mx ret rm n0 k j T h) {x : Int32} {o : Int} (d : Brn b pc (.ifCond .le o) o pc' tg) (gt : ¬ 0 < x → Go K n0 kc kj Q T tg Ls (rest)) (gf : 0 < x → Go K n0 kc kj Q T pc' Ls (rest)) : Go K n0 kc kj Q T pc Ls (.int x :: rest) := by
  by_cases q : 0 < x
  · exact o_if_le_f X d q (gf q)
  · exact o_if_le_t X d q (gt q)
theorem o_lif_le_t (X : St K Z own b mx ret rm n0 k j T h) {x y : Int64} {o : Int} (d : Brn b pc (.ifCond .le o) o pc' tg) (q : ¬ y < x) (g : Go K n0 kc kj Q T tg Ls (rest)) : Go K n0 kc kj Q T pc Ls (.int (XT.cmpL x y) :: rest) := by
  obtain ⟨d, rfl, h1, h2⟩ := d; exact o_go (fun t k => XS.ifYes X.here X.ex rfl rfl (X.dec d) rfl (XT.ll_le_t q) h1 h2 k) g
theorem o_lif_le_f (X : St K Z own b mx ret rm n0 k j T h) {x y : Int64} {o : Int} (d : Brn b pc (.ifCond .le o) o pc' tg) (q : y < x) (g : Go K n0 kc kj Q T pc' Ls (rest)) : Go K n0 kc kj Q T pc Ls (.int (XT.cmpL x y) :: rest) := by
  obtain ⟨d, rfl, h1, h2⟩ := d; exact o_go (fun t k => XS.ifNo X.here X.ex rfl (X.dec d) rfl (XT.ll_le_f q) k) g
theorem o_lif_le (X : St K Z own b mx ret rm n0 k j T h) {x y : Int64} {o : Int} (d : Brn b pc (.ifCond .le o) o pc' tg) (gt : ¬ y < x → Go K n0 kc kj Q T tg Ls (rest)) (gf : y < x → Go K n0 kc kj Q T pc' Ls (rest)) : Go K n0 kc kj Q T pc Ls (.int (XT.cmpL x y) :: rest) := by
  by_cases q : y < x
  · exact o_lif_le_f X d q (gf q)
  · exact o_lif_le_t X d q (gt q)
theorem o_bool_icmp_eq (X : St K Z own b mx ret rm n0 k j T h) {x y : Int32} {o o2 : Int} {pc2 pc3 pj : Nat} (d : Brn b pc (.if_icmp .eq o) o pc' tg) (d1 : Isn b pc' (.iconst 1) 1 pc2) (d2 : Brn b pc2 (.goto o2) o2 pc3 pj) (d3 : Isn b tg (.iconst 0) 1 pj) (g : Go K n0 kc kj Q T pj Ls (.int (if x = y then 0 else 1) :: rest)) : Go K n0 kc kj Q T pc Ls (.int y :: .int x :: rest) := by
  refine o_icmp_eq X d (fun q => o_iconst 0 X d3 rfl ?_) (fun q => o_iconst 1 X d1 rfl (o_goto X d2 ?_))
  · simpa only [q, if_true, if_false] using g
  · simpa only [q, if_true, if_false] using g
theorem o_bool_if_eq (X : St K Z own b mx ret rm n0 k j T h) {x : Int32} {o o2 : Int} {pc2 pc3 pj : Nat} (d : Brn b pc (.ifCond .eq o) o pc' tg) (d1 : Isn b pc' (.iconst 1) 1 pc2) (d2 : Brn b pc2 (.goto o2) o2 pc3 pj) (d3 : Isn b tg (.iconst 0) 1 pj) (g : Go K n0 kc kj Q T pj Ls (.int (if x = 0 then 0 else 1) :: rest)) : Go K n0 kc kj Q T pc Ls (.int x :: rest) := by
  refine o_if_eq X d (fun q => o_iconst 0 X d3 rfl ?_) (fun q => o_iconst 1 X d1 rfl (o_goto X d2 ?_))
  · simpa only [q, if_true, if_false] using g
  · simpa only [q, if_true, if_false] using g
theorem o_bool_lif_eq (X : St K Z own b mx ret rm n0 k j T h) {x y : Int64} {o o2 : Int} {pc2 pc3 pj : Nat} (d : Brn b pc (.ifCond .eq o) o pc' tg) (d1 : Isn b pc' (.iconst 1) 1 pc2) (d2 : Brn b pc2 (.goto o2) o2 pc3 pj) (d3 : Isn b tg (.iconst 0) 1 pj) (g : Go K n0 kc kj Q T pj Ls (.int (if x = y then 0 else 1) :: rest)) : Go K n0 kc kj Q T pc Ls (.int (XT.cmpL x y) :: rest) := by
  refine o_lif_eq X d (fun q => o_iconst 0 X d3 rfl ?_) (fun q => o_iconst 1 X d1 rfl (o_goto X d2 ?_))
  · simpa only [q, if_true, if_false] using g
  · simpa only [q, if_true, if_false] using g
theorem o_bool_icmp_ne (X : St K Z own b mx ret rm n0 k j T h) {x y : Int32} {o o2 : Int} {pc2 pc3 pj : Nat} (d : Brn b pc (.if_icmp .ne o) o pc' tg) (d1 : Isn b pc' (.iconst 1) 1 pc2) (d2 : Brn b pc2 (.goto o2) o2 pc3 pj) (d3 : Isn b tg (.iconst 0) 1 pj) (g : Go K n0 kc kj Q T pj Ls (.int (if x = y then 1 else 0) :: rest)) : Go K n0 kc kj Q T pc Ls (.int y :: .int x :: rest) := by
  refine o_icmp_ne X d (fun q => o_iconst 0 X d3 rfl ?_) (fun q => o_iconst 1 X d1 rfl (o_goto X d2 ?_))
  · simpa only [q, if_true, if_false] using g
  · simpa only [q, if_true, if_false] using g
theorem o_bool_if_ne (X : St K Z own b mx ret rm n0 k j T h) {x : Int32} {o o2 : Int} {pc2 pc3 pj : Nat} (d : Brn b pc (.ifCond .ne o) o pc' tg) (d1 : Isn b pc' (.iconst 1) 1 pc2) (d2 : Brn b pc2 (.goto o2) o2 pc3 pj) (d3 : Isn b tg (.iconst 0) 1 pj) (g : Go K n0 kc kj Q T pj Ls (.int (if x = 0 then 1 else 0) :: rest)) : Go K n0 kc kj Q T pc Ls (.int x :: rest) := by
  refine o_if_ne X d (fun q => o_iconst 0 X d3 rfl ?_) (fun q => o_iconst 1 X d1 rfl (o_goto X d2 ?_))
  · simpa only [q, if_true, if_false] using g
  · simpa only [q, if_true, if_false] using g
theorem o_bool_lif_ne (X : St K Z own b mx ret rm n0 k j T h) {x y : Int64} {o o2 : Int} {pc2 pc3 pj : Nat} (d : Brn b pc (.ifCond .ne o) o pc' tg) (d1 : Isn b pc' (.iconst 1) 1 pc2) (d2 : Brn b pc2 (.goto o2) o2 pc3 pj) (d3 : Isn b tg (.iconst 0) 1 pj) (g : Go K n0 kc kj Q T pj Ls (.int (if x = y then 1 else 0) :: rest)) : Go K n0 kc kj Q T pc Ls (.int (XT.cmpL x y) :: rest) := by
  refine o_lif_ne X d (fun q => o_iconst 0 X d3 rfl ?_) (fun q => o_iconst 1 X d1 rfl (o_goto X d2 ?_))
  · simpa only [q, if_true, if_false] using g
  · simpa only [q, if_true, if_false] using g
theorem o_bool_icmp_lt (X : St K Z own b mx ret rm n0 k j T h) {x y : Int32} {o o2 : Int} {pc2 pc3 pj : Nat} (d : Brn b pc (.if_icmp .lt o) o pc' tg) (d1 : Isn b pc' (.iconst 1) 1 pc2) (d2 : Brn b pc2 (.goto o2) o2 pc3 pj) (d3 : Isn b tg (.iconst 0) 1 pj) (g : Go K n0 kc kj Q T pj Ls (.int (if x < y then 0 else 1) :: rest)) : Go K n0 kc kj Q T pc Ls (.int y :: .int x :: rest) := by
  refine o_icmp_lt X d (fun q => o_iconst 0 X d3 rfl ?_) (fun q => o_iconst 1 X d1 rfl (o_goto X d2 ?_))
  · simpa only [q, if_true, if_false] using g
  · simpa only [q, if_true, if_false] using g
theorem o_bool_if_lt (X : St K Z own b mx ret rm n0 k j T h) {x : Int32} {o o2 : Int} {pc2 pc3 pj : Nat} (d : Brn b pc (.ifCond .lt o) o pc' tg) (d1 : Isn b pc' (.iconst 1) 1 pc2) (d2 : Brn b pc2 (.goto o2) o2 pc3 pj) (d3 : Isn b tg (.iconst 0) 1 pj) (g : Go K n0 kc kj Q T pj Ls (.int (if x < 0 then 0 else 1) :: rest)) : Go K n0 kc kj Q T pc Ls (.int x :: rest) := by
  refine o_if_lt X d (fun q => o_iconst 0 X d3 rfl ?_) (fun q => o_iconst 1 X d1 rfl (o_goto X d2 ?_))
  · simpa only [q, if_true, if_false] using g
  · simpa only [q, if_true, if_false] using g
theorem o_bool_lif_lt (X : St K Z own b mx ret rm n0 k j T h) {x y : Int64} {o o2 : Int} {pc2 pc3 pj : Nat} (d : Brn b pc (.ifCond .lt o) o pc' tg) (d1 : Isn b pc' (.iconst 1) 1 pc2) (d2 : Brn b pc2 (.goto o2) o2 pc3 pj) (d3 : Isn b tg (.iconst 0) 1 pj) (g : Go K n0 kc kj Q T pj Ls (.int (if x < y then 0 else 1) :: rest)) : Go K n0 kc kj Q T pc Ls (.int (XT.cmpL x y) :: rest) := by
  refine o_lif_lt X d (fun q => o_iconst 0 X d3 rfl ?_) (fun q => o_iconst 1 X d1 rfl (o_goto X d2 ?_))
  · simpa only [q, if_true, if_false] using g
  · simpa only [q, if_true, if_false] using g
theorem o_bool_icmp_ge (X : St K Z own b mx ret rm n0 k j T h) {x y : Int32} {o o2 : Int} {pc2 pc3 pj : Nat} (d : Brn b pc (.if_icmp .ge o) o pc' tg) (d1 : Isn b pc' (.iconst 1) 1 pc2) (d2 : Brn b pc2 (.goto o2) o2 pc3 pj) (d3 : Isn b tg (.iconst 0) 1 pj) (g : Go K n0 kc kj Q T pj Ls (.int (if x < y then 1 else 0) :: rest)) : Go K n0 kc kj Q T pc Ls (.int y :: .int x :: rest) := by
  refine o_icmp_ge X d (fun q => o_iconst 0 X d3 rfl ?_) (fun q => o_iconst 1 X d1 rfl (o_goto X d2 ?_))
  · simpa only [q, if_true, if_false] using g
  · simpa only [q, if_true, if_false] using g
theorem o_bool_if_ge (X : St K Z own b mx ret rm n0 k j T h) {x : Int32} {o o2 : Int} {pc2 pc3 pj : Nat} (d : Brn b pc (.ifCond .ge o) o pc' tg) (d1 : Isn b pc' (.iconst 1) 1 pc2) (d2 : Brn b pc2 (.goto o2) o2 pc3 pj) (d3 : Isn b tg (.iconst 0) 1 pj) (g : Go K n0 kc kj Q T pj Ls (.int (if x < 0 then 1 else 0) :: rest)) : Go K n0 kc kj Q T pc Ls (.int x :: rest) := by
  refine o_if_ge X d (fun q => o_iconst 0 X d3 rfl ?_) (fun q => o_iconst 1 X d1 rfl (o_goto X d2 ?_))
  · simpa only [q, if_true, if_false] using g
  · simpa only [q, if_true, if_false] using g
theorem o_bool_lif_ge (X : St K Z own b mx ret rm n0 k j T h) {x y : Int64} {o o2 : Int} {pc2 pc3 pj : Nat} (d : Brn b pc (.ifCond .ge o) o pc' tg) (d1 : Isn b pc' (.iconst 1) 1 pc2) (d2 : Brn b pc2 (.goto o2) o2 pc3 pj) (d3 : Isn b tg (.iconst 0) 1 pj) (g : Go K n0 kc kj Q T pj Ls (.int (if x < y then 1 else 0) :: rest)) : Go K n0 kc kj Q T pc Ls (.int (XT.cmpL x y) :: rest) := by
  refine o_lif_ge X d (fun q => o_iconst 0 X d3 rfl ?_) (fun q => o_iconst 1 X d1 rfl (o_goto X d2 ?_))
  · simpa only [q, if_true, if_false] using g
  · simpa only [q, if_true, if_false] using g
theorem o_bool_icmp_gt (X : St K Z own b mx ret rm n0 k j T h) {x y : Int32} {o o2 : Int} {pc2 pc3 pj : Nat} (d : Brn b pc (.if_icmp .gt o) o pc' tg) (d1 : Isn b pc' (.iconst 1) 1 pc2) (d2 : Brn b pc2 (.goto o2) o2 pc3 pj) (d3 : Isn b tg (.iconst 0) 1 pj) (g : Go K n0 kc kj Q T pj Ls (.int (if y < x then 0 else 1) :: rest)) : Go K n0 kc kj Q T pc Ls (.int y :: .int x :: rest) := by
  refine o_icmp_gt X d (fun q => o_iconst 0 X d3 rfl ?_) (fun q => o_iconst 1 X d1 rfl (o_goto X d2 ?_))
  · simpa only [q, if_true, if_false] using g
  · simpa only [q, if_true, if_false] using g
theorem o_bool_if_gt (X : St K Z own b mx ret rm n0 k j T h) {x : Int32} {o o2 : Int} {pc2 pc3 pj : Nat} (d : Brn b pc (.ifCond .gt o) o pc' tg) (d1 : Isn b pc' (.iconst 1) 1 pc2) (d2 : Brn b pc2 (.goto o2) o2 pc3 pj) (d3 : Isn b tg (.iconst 0) 1 pj) (g : Go K n0 kc kj Q T pj Ls (.int (if 0 < x then 0 else 1) :: rest)) : Go K n0 kc kj Q T pc Ls (.int x :: rest) := by
  refine o_if_gt X d (fun q => o_iconst 0 X d3 rfl ?_) (fun q => o_iconst 1 X d1 rfl (o_goto X d2 ?_))
  · simpa only [q, if_true, if_false] using g
  · simpa only [q, if_true, if_false] using g
theorem o_bool_lif_gt (X : St K Z own b mx ret rm n0 k j T h) {x y : Int64} {o o2 : Int} {pc2 pc3 pj : Nat} (d : Brn b pc (.ifCond .gt o) o pc' tg) (d1 : Isn b pc' (.iconst 1) 1 pc2) (d2 : Brn b pc2 (.goto o2) o2 pc3 pj) (d3 : Isn b tg (.iconst 0) 1 pj) (g : Go K n0 kc kj Q T pj Ls (.int (if y < x then 0 else 1) :: rest)) : Go K n0 kc kj Q T pc Ls (.int (XT.cmpL x y) :: rest) := by
  refine o_lif_gt X d (fun q => o_iconst 0 X d3 rfl ?_) (fun q => o_iconst 1 X d1 rfl (o_goto X d2 ?_))
  · simpa only [q, if_true, if_false] using g
  · simpa only [q, if_true, if_false] using g
theorem o_bool_icmp_le (X : St K Z own b mx ret rm n0 k j T h) {x y : Int32} {o o2 : Int} {pc2 pc3 pj : Nat} (d : Brn b pc (.if_icmp .le o) o pc' tg) (d1 : Isn b pc' (.iconst 1) 1 pc2) (d2 : Brn b pc2 (.goto o2) o2 pc3 pj) (d3 : Isn b tg (.iconst 0) 1 pj) (g : Go K n0 kc kj Q T pj Ls (.int (if y < x then 1 else 0) :: rest)) : Go K n0 kc kj Q T pc Ls (.int y :: .int x :: rest) := by
  refine o_icmp_le X d (fun q => o_iconst 0 X d3 rfl ?_) (fun q => o_iconst 1 X d1 rfl (o_goto X d2 ?_))
  · simpa only [q, if_true, if_false] using g
  · simpa only [q, if_true, if_false] using g
theorem o_bool_if_le (X : St K Z own b mx ret rm n0 k j T h) {x : Int32} {o o2 : Int} {pc2 pc3 pj : Nat} (d : Brn b pc (.ifCond .le o) o pc' tg) (d1 : Isn b pc' (.iconst 1) 1 pc2) (d2 : Brn b pc2 (.goto o2) o2 pc3 pj) (d3 : Isn b tg (.iconst 0) 1 pj) (g : Go K n0 kc kj Q T pj Ls (.int (if 0 < x then 1 else 0) :: rest)) : Go K n0 kc kj Q T pc Ls (.int x :: rest) := by
  refine o_if_le X d (fun q => o_iconst 0 X d3 rfl ?_) (fun q => o_iconst 1 X d1 rfl (o_goto X d2 ?_))
  · simpa only [q, if_true, if_false] using g
  · simpa only [q, if_true, if_false] using g
theorem o_bool_lif_le (X : St K Z own b mx ret rm n0 k j T h) {x y : Int64} {o o2 : Int} {pc2 pc3 pj : Nat} (d : Brn b pc (.ifCond .le o) o pc' tg) (d1 : Isn b pc' (.iconst 1) 1 pc2) (d2 : Brn b pc2 (.goto o2) o2 pc3 pj) (d3 : Isn b tg (.iconst 0) 1 pj) (g : Go K n0 kc kj Q T pj Ls (.int (if y < x then 1 else 0) :: rest)) : Go K n0 kc kj Q T pc Ls (.int (XT.cmpL x y) :: rest) := by
  refine o_lif_le X d (fun q => o_iconst 0 X d3 rfl ?_) (fun q => o_iconst 1 X d1 rfl (o_goto X d2 ?_))
  · simpa only [q, if_true, if_false] using g
  · simpa only [q, if_true, if_false] using g
theorem o_ifnonnull_r (X : St K Z own b mx ret rm n0 k j T h) {a : Addr} {o : Int} (d : Brn b pc (.ifnonnull o) o pc' tg) (g : Go K n0 kc kj Q T tg Ls (rest)) : Go K n0 kc kj Q T pc Ls (.ref a :: rest) := by
  obtain ⟨d, rfl, h1, h2⟩ := d; exact o_go (fun t k => XT.ifnonnullYes X.here X.ex rfl rfl (X.dec d) rfl h1 h2 k) g
theorem o_ifnonnull_0 (X : St K Z own b mx ret rm n0 k j T h) {o : Int} (d : Brn b pc (.ifnonnull o) o pc' tg) (g : Go K n0 kc kj Q T pc' Ls (rest)) : Go K n0 kc kj Q T pc Ls (.null :: rest) := by
  obtain ⟨d, rfl, h1, h2⟩ := d; exact o_go (fun t k => XT.ifnonnullNo X.here X.ex rfl (X.dec d) rfl k) g
theorem o_ifnull_r (X : St K Z own b mx ret rm n0 k j T h) {a : Addr} {o : Int} (d : Brn b pc (.ifnull o) o pc' tg) (g : Go K n0 kc kj Q T pc' Ls (rest)) : Go K n0 kc kj Q T pc Ls (.ref a :: rest) := by
  obtain ⟨d, rfl, h1, h2⟩ := d; exact o_go (fun t k => XS.ifnullNo X.here X.ex rfl (X.dec d) rfl k) g
theorem o_ifnull_0 (X : St K Z own b mx ret rm n0 k j T h) {o : Int} (d : Brn b pc (.ifnull o) o pc' tg) (g : Go K n0 kc kj Q T tg Ls (rest)) : Go K n0 kc kj Q T pc Ls (.null :: rest) := by
  obtain ⟨d, rfl, h1, h2⟩ := d; exact o_go (fun t k => XS.ifnullYes X.here X.ex rfl rfl (X.dec d) rfl h1 h2 k) g
theorem o_leave (X : St K Z own b mx ret rm n0 k j T h) {v : Option Value} (hv : ret = none → v = none) (hk : k ≤ kc) (hj : j ≤ kj) (q : Q v h)
    (f : ∀ fs, (∀ (f : JFrame) (acts : List Action), f.method = K.m → f.locked = none → f.entered = [] → (doReturn K.e (T.setTop f) acts v).1 = T.setFrames fs) → Steps K.p.tables K.e K.below (T.setTop (mkF K.m pc Ls st)) (T.setFrames fs)) : Go K n0 kc kj Q T pc Ls (st) := by
  obtain ⟨locs, S, N⟩ := X.sd
  obtain ⟨fs, hr, hrun, hended, hW, hsame⟩ := S.leave (v := v) (fun q => hv (X.rt.symm.trans q)) X.nl
  have e : (T.setFrames fs).heap = h := X.hp
  exact ⟨_, _, f fs hr, hrun, hended, v, locs, rfl, ⟨e ▸ q, N⟩, ⟨v, rfl⟩, hW, hsame.mono hk hj⟩
theorem o_retI (X : St K Z own b mx (some .int) rm n0 k j T h) {z : Int32} (d : Isn b pc .ireturn 1 pc') (hk : k ≤ kc) (hj : j ≤ kj) (q : Q (some (.int z)) h) : Go K n0 kc kj Q T pc Ls (.int z :: rest) := by
  obtain ⟨_, S, _⟩ := X.sd
  exact o_leave X (fun q => nomatch q) hk hj q fun fs hr => retOut S X.ex X.rt rfl (Or.inl ⟨rfl, Or.inl rfl, z, rfl⟩) (X.dec d.1) hr
theorem o_retL (X : St K Z own b mx (some .long) rm n0 k j T h) {z : Int64} (d : Isn b pc .lreturn 1 pc') (hk : k ≤ kc) (hj : j ≤ kj) (q : Q (some (.long z)) h) : Go K n0 kc kj Q T pc Ls (.long z :: rest) := by
  obtain ⟨_, S, _⟩ := X.sd
  exact o_leave X (fun q => nomatch q) hk hj q fun fs hr => retOut S X.ex X.rt rfl (Or.inr (Or.inl ⟨rfl, rfl, z, rfl⟩)) (X.dec d.1) hr
theorem o_retA {t : FieldType} (X : St K Z own b mx (some t) rm n0 k j T h) {z : Value} (ht : t.isReference = true) (hn : narrow t z = z) (hz : z.isRef = true) (d : Isn b pc .areturn 1 pc') (hk : k ≤ kc) (hj : j ≤ kj) (q : Q (some z) h) : Go K n0 kc kj Q T pc Ls (z :: rest) := by
  obtain ⟨_, S, _⟩ := X.sd
  exact o_leave X (fun q => nomatch q) hk hj q fun fs hr => retOut S X.ex X.rt hn (Or.inr (Or.inr (Or.inr (Or.inr ⟨rfl, ht, hz⟩)))) (X.dec d.1) hr
theorem o_retN {t : FieldType} (X : St K Z own b mx (some t) rm n0 k j T h) {z : Int32} (ht : t = .boolean ∨ t = .byte ∨ t = .char ∨ t = .short) (d : Isn b pc .ireturn 1 pc') (hk : k ≤ kc) (hj : j ≤ kj) (q : Q (some (.int (nar t z))) h) : Go K n0 kc kj Q T pc Ls (.int z :: rest) := by
  obtain ⟨_, S, _⟩ := X.sd
  exact o_leave X (fun q => nomatch q) hk hj q fun fs hr => retN S X.ex X.rt ht (X.dec d.1) hr
theorem o_retZ (X : St K Z own b mx (some .boolean) rm n0 k j T h) {z : Int32} (d : Isn b pc .ireturn 1 pc') (hk : k ≤ kc) (hj : j ≤ kj) (q : Q (some (.int (z &&& 1))) h) : Go K n0 kc kj Q T pc Ls (.int z :: rest) := o_retN X (Or.inl rfl) d hk hj q
theorem o_ret0 (X : St K Z own b mx none rm n0 k j T h) (d : Isn b pc .return_ 1 pc') (hk : k ≤ kc) (hj : j ≤ kj) (q : Q none h) : Go K n0 kc kj Q T pc Ls ([]) := by
  obtain ⟨_, S, _⟩ := X.sd
  exact o_leave X (fun _ => rfl) hk hj q fun fs hr => S.returnOut X.ex X.rt (X.dec d.1) hr
theorem CtrW.intro {l : Launch} {y : MethodName} {ws : List Jvm.Cond} {as' : List Value} (pn : plainFor y = true) (ho : y.cls = own) (Ls : Array Slot) (hE : Jvm.Sym.laidSlots as' ++ List.replicate (mx - (Jvm.Sym.laidSlots as').length) .unset = Ls.toList)
    (body : ∀ (K : Cx) (T : State), K.meth.name = y.name → K.l = l → St K Z own b mx ret rm n0 0 0 T h → Go K n0 kc kj Q T 0 Ls []) : CtrW l Z y b mx ret ws rm kc kj as' h n0 Q := by
  refine MetFree.of_bodySF pn hisR ?_
  intro p e s m args below meth c s₁ Bd hml0 hP hK
  obtain ⟨rfl, hZ, hh⟩ := hP
  subst ho
  have X0 : Stand p l e rm s m as'.toArray below meth c s₁ [] 0 0 := Stand.of_body Bd
  have e0 : s₁.heap = h := by rw [← hh, Bd.state]; rfl
  obtain ⟨t, o, h1, h2, h3, h4⟩ := body (p, l, e, rm, s, m, as'.toArray, below, meth, c) s₁ (name_of_methodNamed Bd.named Bd.method).1 rfl ⟨Bd.exec, hZ, findClass_of_methodNamed Bd.named, Bd.bytes, hml0, Bd.returns, Bd.notSynchronized, rfl, e0, [], X0, Fr.nil n0⟩
  exact ⟨t, o, (XT.entry hE).trans h1, h2, h3, h4⟩
theorem o_callS (X : St K Z own b mx ret rm n0 k j T h) (W : Nat) {i : Nat} {y : MethodName} {by' : ByteArray} {my : Nat} {ry : Option FieldType} {rmy : Room} {as' : List Value} {Qy : Option Value → Heap → Prop} (d : Isn b pc (.invokestatic i) 3 pc')
    (w1 : (Jvm.Cond.methodLink own i y).before a0 Z = true) (w2 : (Jvm.Cond.static y).before a0 Z = true) (w3 : (Jvm.Cond.initialized y.cls).before a0 Z = true) (w4 : (Jvm.Cond.code y by' my ry).before a0 Z = true)
    (hy : y.cls ≠ "java/lang/invoke/MethodHandle" ∧ y.cls ≠ "java/lang/invoke/VarHandle") (C : Ctr K.l Z y by' my ry rmy as' h n0 Qy) (hn : ∀ sig, parseMethodDescriptor y.desc = some sig → as'.length = sig.parameters.length)
    (hs : st = as'.reverse ++ rest) (hsz : Ls.size = mx) (hW : (rest.map fun v => v.category).sum ≤ W) (hr : rmy.frames + 1 ≤ rm.frames ∧ W + (my + 11) + rmy.locals ≤ rm.locals ∧ k + rmy.cells ≤ rm.cells ∧ j + rmy.slots ≤ rm.slots)
    (g : ∀ T' h' v, Qy v h' → St K Z own b mx ret rm n0 (k + rmy.cells) (j + rmy.slots) T' h' → Go K n0 kc kj Q T' pc' Ls (v.toList ++ rest)) : Go K n0 kc kj Q T pc Ls (st) := by
  obtain ⟨d, rfl⟩ := d; obtain ⟨locs, S, N⟩ := X.sd; have hR := X.rmE
  obtain ⟨v, _, ⟨T', L', k', j'⟩, -, S', ⟨Lc, ⟨hQ, NL⟩, l1, l2, l3⟩, st'⟩ := Jvm.LawKit.callS S X.ex (y := y) X.ow (mvT X.wZ w1) (mvT X.wZ w2) (mvT X.wZ w3) (mvT X.wZ w4) hy (backOf (W := W) (Q := fun v h L => Qy v h ∧ Fr n0 L) C X.wZ w4 w3 (by rw [hR]; exact hr.1) (by rw [hR]; exact hr.2.1)) (g := mkF K.m pc Ls st) rfl (hsz.trans X.ml.symm) (argsL := as') (rest := rest) hn hs (by show 2 * 0 + _ ≤ _; omega) (X.dec d) (fun _ _ => ⟨rfl, X.hp, by rw [hR]; exact hr.2.2.1, by rw [hR]; exact hr.2.2.2⟩)
  dsimp only [Pt.U, Pt.locs, Pt.cells, Pt.slots] at S' l1 l2 l3 st' hQ
  subst l1 l2 l3
  exact o_go (fun t k => st' t k) (g T' T'.heap v hQ (X.mk' S' (Fr.app N NL) rfl))
theorem o_callV (X : St K Z own b mx ret rm n0 k j T h) (W : Nat) {i : Nat} {y z : MethodName} {C' : String} {by' : ByteArray} {my : Nat} {ry : Option FieldType} {rmy : Room} {a : Addr} {as' : List Value} {Qy : Option Value → Heap → Prop} (d : Isn b pc (.invokevirtual i) 3 pc')
    (w1 : (Jvm.Cond.methodLink own i y).before a0 Z = true) (w2 : (Jvm.Cond.declares y).before a0 Z = true) (w3 : (Jvm.Cond.selects y.cls y y).before a0 Z = true) (w5 : (Jvm.Cond.selects C' y z).before a0 Z = true) (w6 : (Jvm.Cond.instanceMethod z).before a0 Z = true)
    (hy : y.cls ≠ "java/lang/invoke/MethodHandle" ∧ y.cls ≠ "java/lang/invoke/VarHandle") (w4 : (Jvm.Cond.code z by' my ry).before a0 Z = true) (w7 : (Jvm.Cond.initialized z.cls).before a0 Z = true) (C : Ctr K.l Z z by' my ry rmy (.ref a :: as') h n0 Qy) (E : Exa Z h a C') (hn : ∀ sig, parseMethodDescriptor y.desc = some sig → as'.length = sig.parameters.length)
    (hs : st = as'.reverse ++ .ref a :: rest) (hsz : Ls.size = mx) (hW : (rest.map fun v => v.category).sum ≤ W) (hr : rmy.frames + 1 ≤ rm.frames ∧ W + (my + 11) + rmy.locals ≤ rm.locals ∧ k + rmy.cells ≤ rm.cells ∧ j + rmy.slots ≤ rm.slots)
    (g : ∀ T' h' v, Qy v h' → St K Z own b mx ret rm n0 (k + rmy.cells) (j + rmy.slots) T' h' → Go K n0 kc kj Q T' pc' Ls (v.toList ++ rest)) : Go K n0 kc kj Q T pc Ls (st) := by
  obtain ⟨d, rfl⟩ := d; obtain ⟨locs, S, N⟩ := X.sd; have hR := X.rmE
  obtain ⟨cq, kq, q1, q2, q3⟩ := isOf (s := K.s) X.wZ X.hp E
  obtain ⟨v, _, ⟨T', L', k', j'⟩, -, S', ⟨Lc, ⟨hQ, NL⟩, l1, l2, l3⟩, st'⟩ := S.virtualBack X.ex (y := y) (z := z) X.ow (mvT X.wZ w1) (mvT X.wZ w2) (notFace_of_selects (args := #[]) (mvT X.wZ w3)) (mvT X.wZ w5) (mvT X.wZ w6) hy (backOf (W := W) (Q := fun v h L => Qy v h ∧ Fr n0 L) C X.wZ w4 w7 (by rw [hR]; exact hr.1) (by rw [hR]; exact hr.2.1)) q1 q3 (g := mkF K.m pc Ls st) rfl (hsz.trans X.ml.symm) (Steps.refl _) (argsL := as') (rest := rest) hn hs (by show 2 * 0 + _ ≤ _; omega) (X.dec d) (fun _ _ => ⟨rfl, X.hp, by rw [hR]; exact hr.2.2.1, by rw [hR]; exact hr.2.2.2⟩)
  dsimp only [Pt.U, Pt.locs, Pt.cells, Pt.slots] at S' l1 l2 l3 st' hQ
  subst l1 l2 l3
  exact o_go (fun t k => st'.trans k) (g T' T'.heap v hQ (X.mk' S' (Fr.app N NL) rfl))
theorem o_callN (X : St K Z own b mx ret rm n0 k j T h) (W : Nat) {i : Nat} {y : MethodName} {by' : ByteArray} {my : Nat} {rmy : Room} {a : Addr} {as' : List Value} {Qy : Option Value → Heap → Prop} (d : Isn b pc (.invokespecial i) 3 pc') (hy1 : y.name = "<init>")
    (w1 : (Jvm.Cond.methodLink own i y).before a0 Z = true) (w2 : (Jvm.Cond.instanceMethod y).before a0 Z = true) (w4 : (Jvm.Cond.code y by' my none).before a0 Z = true) (w3 : (Jvm.Cond.initialized y.cls).before a0 Z = true)
    (hy : y.cls ≠ "java/lang/invoke/MethodHandle" ∧ y.cls ≠ "java/lang/invoke/VarHandle") (C : Ctr K.l Z y by' my none rmy (.ref a :: as') h n0 Qy) (hn : ∀ sig, parseMethodDescriptor y.desc = some sig → as'.length = sig.parameters.length)
    (hs : st = as'.reverse ++ .ref a :: rest) (hsz : Ls.size = mx) (hW : (rest.map fun v => v.category).sum ≤ W) (hr : rmy.frames + 1 ≤ rm.frames ∧ W + (my + 11) + rmy.locals ≤ rm.locals ∧ k + rmy.cells ≤ rm.cells ∧ j + rmy.slots ≤ rm.slots)
    (g : ∀ T' h' v, Qy v h' → St K Z own b mx ret rm n0 (k + rmy.cells) (j + rmy.slots) T' h' → Go K n0 kc kj Q T' pc' Ls (v.toList ++ rest)) : Go K n0 kc kj Q T pc Ls (st) := by
  obtain ⟨d, rfl⟩ := d; obtain ⟨locs, S, N⟩ := X.sd; have hR := X.rmE
  obtain ⟨v, _, ⟨T', L', k', j'⟩, -, S', ⟨Lc, ⟨hQ, NL⟩, l1, l2, l3⟩, st'⟩ := S.specialBack X.ex (y := y) hy1 X.ow (mvT X.wZ w1) (mvT X.wZ w2) (mvT X.wZ w4) hy (backOf (W := W) (Q := fun v h L => Qy v h ∧ Fr n0 L) C X.wZ w4 w3 (by rw [hR]; exact hr.1) (by rw [hR]; exact hr.2.1)) (g := mkF K.m pc Ls st) rfl (hsz.trans X.ml.symm) (Steps.refl _) (a := a) (argsL := as') (rest := rest) hn hs (by show 2 * 0 + _ ≤ _; omega) (X.dec d) (fun _ _ => ⟨rfl, X.hp, by rw [hR]; exact hr.2.2.1, by rw [hR]; exact hr.2.2.2⟩)
  dsimp only [Pt.U, Pt.locs, Pt.cells, Pt.slots] at S' l1 l2 l3 st' hQ
  subst l1 l2 l3
  exact o_go (fun t k => st'.trans k) (g T' T'.heap v hQ (X.mk' S' (Fr.app N NL) rfl))
theorem o_initO (X : St K Z own b mx ret rm n0 k j T h) (W : Nat) {i : Nat} {a : Addr} (d : Isn b pc (.invokespecial i) 3 pc') (w1 : (Jvm.Cond.methodLink own i Lib.objectInit).before a0 Z = true) (w2 : (Jvm.Cond.instanceMethod Lib.objectInit).before a0 Z = true) (w3 : (Jvm.Cond.code Lib.objectInit ⟨#[0xb1]⟩ 1 none).before a0 Z = true)
    (hsz : Ls.size = mx) (hW : (rest.map fun v => v.category).sum ≤ W) (hr : 1 ≤ rm.frames ∧ W + 12 ≤ rm.locals) (g : ∀ T', St K Z own b mx ret rm n0 k j T' h → Go K n0 kc kj Q T' pc' Ls (rest)) : Go K n0 kc kj Q T pc Ls (.ref a :: rest) := by
  obtain ⟨d, rfl⟩ := d; obtain ⟨locs, S, N⟩ := X.sd; have hR := X.rmE
  obtain ⟨T', S', e', st'⟩ := initO S X.ex X.wZ X.ow w1 w2 w3 X.hp (g := mkF K.m pc Ls (.ref a :: rest)) rfl (hsz.trans X.ml.symm) rfl (X.dec d) (by rw [hR]; exact hr.1) (W := W) (by show 2 * 0 + _ ≤ _; omega) (by rw [hR]; exact hr.2)
  exact o_go (fun t k => st' t k) (g T' (X.mk' S' N e'))
theorem o_getF (X : St K Z own b mx ret rm n0 k j T h) {i : Nat} {O n dd : String} {a : Addr} {v : Value} (d : Isn b pc (.getfield i) 3 pc') (wd : (Jvm.Cond.fieldLink own i O n dd).before a0 Z = true) (F : Fld Z h a O n dd v)
    (g : ∀ T', St K Z own b mx ret rm n0 k j T' h → Go K n0 kc kj Q T' pc' Ls (v :: rest)) : Go K n0 kc kj Q T pc Ls (.ref a :: rest) := by
  obtain ⟨d, rfl⟩ := d; obtain ⟨locs, S, N⟩ := X.sd
  obtain ⟨T', S', e', st'⟩ := getF S X.ex X.wZ X.ow (host := "") (Or.inl wd) Via.refl X.hp F (g := mkF K.m pc Ls (.ref a :: rest)) rfl rfl (X.dec d)
  exact o_go (fun t k => st' t k) (g T' (X.mk' S' N e'))
theorem o_putF (X : St K Z own b mx ret rm n0 k j T h) {i kk : Nat} {O n dd C' : String} {ty : FieldType} {a : Addr} {v ov : Value} (d : Isn b pc (.putfield i) 3 pc') (wd : (Jvm.Cond.fieldLink own i O n dd).before a0 Z = true) (F : Fld Z h a O n dd ov) (E : Exa Z h a C')
    (Lf : (Jvm.Cond.lays C' O n dd).before a0 Z = true ∨ ((Jvm.Cond.laysFinal C' O n dd).before a0 Z = true ∧ own = O ∧ K.meth.name = "<init>")) (wi : (Jvm.Cond.instantiable C' kk).before a0 Z = true) (hty : parseFieldDescriptor dd = some ty) (hn : narrow ty v = v) (hf : fits ty v = true) (ha : n0 ≤ a)
    (g : ∀ T' h', St K Z own b mx ret rm n0 k j T' h' → Wr h h' a (Jvm.RoadKit.slotOf Z O n dd) v → Go K n0 kc kj Q T' pc' Ls (rest)) : Go K n0 kc kj Q T pc Ls (v :: .ref a :: rest) := by
  obtain ⟨d, rfl⟩ := d; obtain ⟨locs, S, N⟩ := X.sd
  obtain ⟨T', h', S', e', W', st'⟩ := putF S X.ex X.wZ X.ow (host := "") (Or.inl wd) Via.refl X.hp F E Lf wi hty hn hf (g := mkF K.m pc Ls (v :: .ref a :: rest)) rfl rfl (X.dec d)
  exact o_go (fun t k => st' t k) (g T' h' (X.mk' S' (Fr.snoc S' N ha) e') W')
theorem o_new (X : St K Z own b mx ret rm n0 k j T h) {i nn : Nat} {C' : String} (d : Isn b pc (.new i) 3 pc') (w1 : (Jvm.Cond.classLink own i C').before a0 Z = true) (w2 : (Jvm.Cond.instantiable C' nn).before a0 Z = true) (w3 : (Jvm.Cond.initialized C').before a0 Z = true) (hr : k + 1 ≤ rm.cells ∧ j + nn ≤ rm.slots)
    (g : ∀ T' h' a, a = h.size → St K Z own b mx ret rm n0 (k + 1) (j + nn) T' h' → Ext h h' → Exa Z h' a C' → (∀ {O nm dd : String} {ty : FieldType}, Laid Z a0 C' O nm dd → parseFieldDescriptor dd = some ty → Fld Z h' a O nm dd (defaultValue ty)) → Go K n0 kc kj Q T' pc' Ls (.ref a :: st)) : Go K n0 kc kj Q T pc Ls (st) := by
  obtain ⟨d, rfl⟩ := d; obtain ⟨locs, S, N⟩ := X.sd; have hR := X.rmE
  obtain ⟨T', h', S', e', E', A', D', -, st'⟩ := newO S X.ex X.wZ X.ow w1 w2 w3 X.hp (g := mkF K.m pc Ls st) rfl (X.dec d) (by rw [hR]; exact hr.1) (by rw [hR]; exact hr.2)
  exact o_go (fun t k => st' t k) (g T' h' h.size rfl (X.mk' S' N e') E' A' D')
/-- an array, by all its values -/
def AL (Z : State) (h : Heap) (a : Addr) (ty : FieldType) (vs : List Value) : Prop := ∃ c : Cell, Arr Z h a c ty ∧ c.slots = vs.toArray ∧ vs.length < 2 ^ 31
theorem AL.lt {a : Addr} {ty : FieldType} {vs : List Value} (A : AL Z h a ty vs) : a < h.size := by obtain ⟨c, q, -⟩ := A; exact q.lt
theorem AL.ext {h' : Heap} {a : Addr} {ty : FieldType} {vs : List Value} (A : AL Z h a ty vs) (E : Ext h h') : AL Z h' a ty vs := by obtain ⟨c, q, r⟩ := A; exact ⟨c, q.ext E, r⟩
theorem AL.other {h' : Heap} {a a' : Addr} {sl : Nat} {v : Value} {ty : FieldType} {vs : List Value} (A : AL Z h a ty vs) (W : Wr h h' a' sl v) (ne : a ≠ a') : AL Z h' a ty vs := by obtain ⟨c, q, r⟩ := A; exact ⟨c, q.other W ne, r⟩
theorem AL.keep {h' : Heap} {a : Addr} {ws : List Addr} {ty : FieldType} {vs : List Value} (A : AL Z h a ty vs) (Kp : Keep h h' ws) (q : a ∉ ws) : AL Z h' a ty vs := by obtain ⟨c, A1, r⟩ := A; exact ⟨c, ⟨Kp.2.1 a c A1.1 q, A1.2⟩, r⟩
theorem AL.set {h' : Heap} {a : Addr} {sl : Nat} {v : Value} {ty : FieldType} {vs : List Value} (A : AL Z h a ty vs) (W : Wr h h' a sl v) : AL Z h' a ty (vs.set sl v) := by
  obtain ⟨c, q, r, s⟩ := A
  exact ⟨_, q.same W, by simp [Cell.setSlot, r], by simpa using s⟩
theorem AL.inb {a : Addr} {ty : FieldType} {vs : List Value} {i : Int32} {c : Cell} (r : c.slots = vs.toArray) (hi : ¬ i < 0) (hl : i.toNatClampNeg < vs.length) : ¬ (i < 0 ∨ c.slots.size ≤ i.toNatClampNeg) := by
  rw [r]; rintro (q | q)
  · exact hi q
  · simp at q; omega
theorem o_arraylength (X : St K Z own b mx ret rm n0 k j T h) {a : Addr} {ty : FieldType} {vs : List Value} (n : Int32) (d : Isn b pc .arraylength 1 pc') (A : AL Z h a ty vs) (hn : vs.length.toInt32 = n) (g : Go K n0 kc kj Q T pc' Ls (.int n :: rest)) : Go K n0 kc kj Q T pc Ls (.ref a :: rest) := by
  obtain ⟨d, rfl⟩ := d; obtain ⟨locs, S, N⟩ := X.sd; obtain ⟨c, q, r, s⟩ := A
  have e : c.slots.size.toInt32 = n := by rw [r, ← hn]; simp
  exact o_go (fun t k => S.arraylength X.ex (cell := c) (by rw [X.hp]; exact q.1) (State.isArrayOf_alike X.wZ.alike q.2.1) (g := mkF K.m pc Ls (.ref a :: rest)) rfl (rest := rest) rfl (X.dec d) t (by rw [e]; exact k)) g
theorem o_iaload (X : St K Z own b mx ret rm n0 k j T h) {a : Addr} {vs : List Value} {i : Int32} {v : Int32} (d : Isn b pc .iaload 1 pc') (A : AL Z h a .int vs) (hi : ¬ i < 0) (hv : vs[i.toNatClampNeg]? = some (.int v)) (g : Go K n0 kc kj Q T pc' Ls (.int v :: rest)) : Go K n0 kc kj Q T pc Ls (.int i :: .ref a :: rest) := by
  obtain ⟨d, rfl⟩ := d; obtain ⟨locs, S, N⟩ := X.sd; obtain ⟨c, q, r, s⟩ := A
  have hl : i.toNatClampNeg < vs.length := (List.getElem?_eq_some_iff.mp hv).1
  exact o_go (fun t k => S.iaload X.ex (j := i) (v := .int v) (by rw [X.hp]; exact q.1) (State.isArrayOf_alike X.wZ.alike q.2.1) q.2.2 (AL.inb (a := a) (ty := .int) r hi hl) (by rw [r]; simpa using hv) (g := mkF K.m pc Ls (.int i :: .ref a :: rest)) rfl rfl (X.dec d) t k) g
theorem o_laload (X : St K Z own b mx ret rm n0 k j T h) {a : Addr} {vs : List Value} {i : Int32} {v : Int64} (d : Isn b pc .laload 1 pc') (A : AL Z h a .long vs) (hi : ¬ i < 0) (hv : vs[i.toNatClampNeg]? = some (.long v)) (g : Go K n0 kc kj Q T pc' Ls (.long v :: rest)) : Go K n0 kc kj Q T pc Ls (.int i :: .ref a :: rest) := by
  obtain ⟨d, rfl⟩ := d; obtain ⟨locs, S, N⟩ := X.sd; obtain ⟨c, q, r, s⟩ := A
  have hl : i.toNatClampNeg < vs.length := (List.getElem?_eq_some_iff.mp hv).1
  exact o_go (fun t k => S.laload X.ex (j := i) (v := .long v) (by rw [X.hp]; exact q.1) (State.isArrayOf_alike X.wZ.alike q.2.1) q.2.2 (AL.inb (a := a) (ty := .long) r hi hl) (by rw [r]; simpa using hv) (g := mkF K.m pc Ls (.int i :: .ref a :: rest)) rfl rfl (X.dec d) t k) g
theorem o_caload (X : St K Z own b mx ret rm n0 k j T h) {a : Addr} {vs : List Value} {i : Int32} {v : Int32} (d : Isn b pc .caload 1 pc') (A : AL Z h a .char vs) (hi : ¬ i < 0) (hv : vs[i.toNatClampNeg]? = some (.int v)) (g : Go K n0 kc kj Q T pc' Ls (.int v :: rest)) : Go K n0 kc kj Q T pc Ls (.int i :: .ref a :: rest) := by
  obtain ⟨d, rfl⟩ := d; obtain ⟨locs, S, N⟩ := X.sd; obtain ⟨c, q, r, s⟩ := A
  have hl : i.toNatClampNeg < vs.length := (List.getElem?_eq_some_iff.mp hv).1
  exact o_go (fun t k => S.caload X.ex (j := i) (v := .int v) (by rw [X.hp]; exact q.1) (State.isArrayOf_alike X.wZ.alike q.2.1) q.2.2 (AL.inb (a := a) (ty := .char) r hi hl) (by rw [r]; simpa using hv) (g := mkF K.m pc Ls (.int i :: .ref a :: rest)) rfl rfl (X.dec d) t k) g
theorem o_baload (X : St K Z own b mx ret rm n0 k j T h) {a : Addr} {vs : List Value} {i : Int32} {v : Int32} (d : Isn b pc .baload 1 pc') (A : AL Z h a .byte vs) (hi : ¬ i < 0) (hv : vs[i.toNatClampNeg]? = some (.int v)) (g : Go K n0 kc kj Q T pc' Ls (.int v :: rest)) : Go K n0 kc kj Q T pc Ls (.int i :: .ref a :: rest) := by
  obtain ⟨d, rfl⟩ := d; obtain ⟨locs, S, N⟩ := X.sd; obtain ⟨c, q, r, s⟩ := A
  have hl : i.toNatClampNeg < vs.length := (List.getElem?_eq_some_iff.mp hv).1
  exact o_go (fun t k => S.baloadBytes X.ex (j := i) (v := .int v) (by rw [X.hp]; exact q.1) (State.isArrayOf_alike X.wZ.alike q.2.1) q.2.2 (AL.inb (a := a) (ty := .byte) r hi hl) (by rw [r]; simpa using hv) (g := mkF K.m pc Ls (.int i :: .ref a :: rest)) rfl rfl (X.dec d) t k) g
theorem o_iastore (X : St K Z own b mx ret rm n0 k j T h) {a : Addr} {vs vs' : List Value} {i : Int32} {v : Int32} (d : Isn b pc .iastore 1 pc') (A : AL Z h a .int vs) (hi : ¬ i < 0) (hl : i.toNatClampNeg < vs.length) (ha : n0 ≤ a) (hv : vs.set i.toNatClampNeg (.int v) = vs')
    (g : ∀ T' h', St K Z own b mx ret rm n0 k j T' h' → Wr h h' a i.toNatClampNeg (.int v) → AL Z h' a .int vs' → Go K n0 kc kj Q T' pc' Ls (rest)) : Go K n0 kc kj Q T pc Ls (.int v :: .int i :: .ref a :: rest) := by
  obtain ⟨d, rfl⟩ := d; obtain ⟨locs, S, N⟩ := X.sd; obtain ⟨c, q, r, s⟩ := A
  obtain ⟨T', h', S', e', W', st'⟩ := stI S X.ex X.wZ X.hp q (j := i) (x := v) (AL.inb (a := a) (ty := .int) r hi hl) (g := mkF K.m pc Ls (.int v :: .int i :: .ref a :: rest)) rfl rfl (X.dec d)
  exact o_go (fun t k => st' t k) (g T' h' (X.mk' S' (Fr.snoc S' N ha) e') W' (hv ▸ AL.set ⟨c, q, r, s⟩ W'))
theorem o_lastore (X : St K Z own b mx ret rm n0 k j T h) {a : Addr} {vs vs' : List Value} {i : Int32} {v : Int64} (d : Isn b pc .lastore 1 pc') (A : AL Z h a .long vs) (hi : ¬ i < 0) (hl : i.toNatClampNeg < vs.length) (ha : n0 ≤ a) (hv : vs.set i.toNatClampNeg (.long v) = vs')
    (g : ∀ T' h', St K Z own b mx ret rm n0 k j T' h' → Wr h h' a i.toNatClampNeg (.long v) → AL Z h' a .long vs' → Go K n0 kc kj Q T' pc' Ls (rest)) : Go K n0 kc kj Q T pc Ls (.long v :: .int i :: .ref a :: rest) := by
  obtain ⟨d, rfl⟩ := d; obtain ⟨locs, S, N⟩ := X.sd; obtain ⟨c, q, r, s⟩ := A
  obtain ⟨T', h', S', e', W', st'⟩ := stJ S X.ex X.wZ X.hp q (j := i) (x := v) (AL.inb (a := a) (ty := .long) r hi hl) (g := mkF K.m pc Ls (.long v :: .int i :: .ref a :: rest)) rfl rfl (X.dec d)
  exact o_go (fun t k => st' t k) (g T' h' (X.mk' S' (Fr.snoc S' N ha) e') W' (hv ▸ AL.set ⟨c, q, r, s⟩ W'))
theorem o_castore (X : St K Z own b mx ret rm n0 k j T h) {a : Addr} {vs vs' : List Value} {i : Int32} {v : Int32} (d : Isn b pc .castore 1 pc') (A : AL Z h a .char vs) (hi : ¬ i < 0) (hl : i.toNatClampNeg < vs.length) (ha : n0 ≤ a) (hv : vs.set i.toNatClampNeg (.int (nar .char v)) = vs')
    (g : ∀ T' h', St K Z own b mx ret rm n0 k j T' h' → Wr h h' a i.toNatClampNeg (.int (nar .char v)) → AL Z h' a .char vs' → Go K n0 kc kj Q T' pc' Ls (rest)) : Go K n0 kc kj Q T pc Ls (.int v :: .int i :: .ref a :: rest) := by
  obtain ⟨d, rfl⟩ := d; obtain ⟨locs, S, N⟩ := X.sd; obtain ⟨c, q, r, s⟩ := A
  obtain ⟨T', h', S', e', W', st'⟩ := stC S X.ex X.wZ X.hp q (j := i) (x := v) (AL.inb (a := a) (ty := .char) r hi hl) (g := mkF K.m pc Ls (.int v :: .int i :: .ref a :: rest)) rfl rfl (X.dec d)
  exact o_go (fun t k => st' t k) (g T' h' (X.mk' S' (Fr.snoc S' N ha) e') W' (hv ▸ AL.set ⟨c, q, r, s⟩ W'))
theorem o_bastore (X : St K Z own b mx ret rm n0 k j T h) {a : Addr} {vs vs' : List Value} {i : Int32} {v : Int32} (d : Isn b pc .bastore 1 pc') (A : AL Z h a .byte vs) (hi : ¬ i < 0) (hl : i.toNatClampNeg < vs.length) (ha : n0 ≤ a) (hv : vs.set i.toNatClampNeg (.int (nar .byte v)) = vs')
    (g : ∀ T' h', St K Z own b mx ret rm n0 k j T' h' → Wr h h' a i.toNatClampNeg (.int (nar .byte v)) → AL Z h' a .byte vs' → Go K n0 kc kj Q T' pc' Ls (rest)) : Go K n0 kc kj Q T pc Ls (.int v :: .int i :: .ref a :: rest) := by
  obtain ⟨d, rfl⟩ := d; obtain ⟨locs, S, N⟩ := X.sd; obtain ⟨c, q, r, s⟩ := A
  obtain ⟨T', h', S', e', W', st'⟩ := stB S X.ex X.wZ X.hp q (j := i) (x := v) (AL.inb (a := a) (ty := .byte) r hi hl) (g := mkF K.m pc Ls (.int v :: .int i :: .ref a :: rest)) rfl rfl (X.dec d)
  exact o_go (fun t k => st' t k) (g T' h' (X.mk' S' (Fr.snoc S' N ha) e') W' (hv ▸ AL.set ⟨c, q, r, s⟩ W'))
theorem o_newarray (X : St K Z own b mx ret rm n0 k j T h) (cap : Nat) {aty : ArrayType} {n : Int32} {vs : List Value} (d : Isn b pc (.newarray aty) 2 pc') (wd : (Jvm.Cond.arrayClass (newarray.typeOf aty)).before a0 Z = true) (hn : ¬ n < 0) (hcap : n.toNatClampNeg ≤ cap) (hvs : List.replicate n.toNatClampNeg (defaultValue (newarray.typeOf aty)) = vs) (hr : cap * 8 ≤ 536870912 ∧ k + 1 ≤ rm.cells ∧ j + cap ≤ rm.slots)
    (g : ∀ T' h' a, a = h.size → St K Z own b mx ret rm n0 (k + 1) (j + cap) T' h' → Ext h h' → AL Z h' a (newarray.typeOf aty) vs → Go K n0 kc kj Q T' pc' Ls (.ref a :: rest)) : Go K n0 kc kj Q T pc Ls (.int n :: rest) := by
  obtain ⟨d, rfl⟩ := d; obtain ⟨locs, S, N⟩ := X.sd; have hR := X.rmE
  obtain ⟨T', h', cA, S', e', E', A', st'⟩ := newP S X.ex X.wZ wd X.hp (g := mkF K.m pc Ls (.int n :: rest)) rfl (X.dec d) rfl hn hcap hr.1 (by rw [hR]; exact hr.2.1) (by rw [hR]; exact hr.2.2)
  refine o_go (fun t k => st' t k) (g T' h' h.size rfl (X.mk' S' N e') E' ⟨_, A', ?_, ?_⟩)
  · rw [← hvs]; simp [newA]
  · rw [← hvs]; simp; have := (back32 hn).2; omega
/-- the array at a takes objects of class C -/
def AO (Z : State) (h : Heap) (a : Addr) (C : String) : Prop := ∃ c : Cell, h[a]? = some c ∧ Ovr Z c.cls C
theorem AO.ext {h' : Heap} {a : Addr} {C : String} (A : AO Z h a C) (E : Ext h h') : AO Z h' a C := by obtain ⟨c, q, r⟩ := A; exact ⟨c, E.2 _ _ q, r⟩
theorem AO.wr {h' : Heap} {a a' : Addr} {C : String} {sl : Nat} {v : Value} (A : AO Z h a C) (W : Wr h h' a' sl v) : AO Z h' a C := by
  obtain ⟨c, q, r⟩ := A; obtain ⟨c', q1, q2, -⟩ := wr_at W q; exact ⟨c', q1, by rw [q2]; exact r⟩
theorem o_anewarray (X : St K Z own b mx ret rm n0 k j T h) (cap : Nat) {i : Nat} {C' : String} {n : Int32} {vs : List Value} (d : Isn b pc (.anewarray i) 3 pc') (w1 : (Jvm.Cond.classLink own i C').before a0 Z = true) (w2 : (Jvm.Cond.arrayOver (.object C')).before a0 Z = true) (hn : ¬ n < 0) (hcap : n.toNatClampNeg ≤ cap) (hvs : List.replicate n.toNatClampNeg Value.null = vs) (hr : cap * 8 ≤ 536870912 ∧ k + 1 ≤ rm.cells ∧ j + cap ≤ rm.slots)
    (g : ∀ T' h' a, a = h.size → St K Z own b mx ret rm n0 (k + 1) (j + cap) T' h' → Ext h h' → AL Z h' a (.object C') vs → AO Z h' a C' → Go K n0 kc kj Q T' pc' Ls (.ref a :: rest)) : Go K n0 kc kj Q T pc Ls (.int n :: rest) := by
  obtain ⟨d, rfl⟩ := d; obtain ⟨locs, S, N⟩ := X.sd; have hR := X.rmE
  obtain ⟨T', h', cA, S', e', E', A', O', st'⟩ := newR S X.ex X.wZ X.ow w1 w2 X.hp (g := mkF K.m pc Ls (.int n :: rest)) rfl (X.dec d) rfl hn hcap hr.1 (by rw [hR]; exact hr.2.1) (by rw [hR]; exact hr.2.2)
  refine o_go (fun t k => st' t k) (g T' h' h.size rfl (X.mk' S' N e') E' ⟨_, A', ?_, ?_⟩ ⟨_, A'.1, O'⟩)
  · rw [← hvs]; simp [newA, defaultValue]
  · rw [← hvs]; simp; have := (back32 hn).2; omega
theorem o_aaload (X : St K Z own b mx ret rm n0 k j T h) {a : Addr} {ty : FieldType} {vs : List Value} {i : Int32} {v : Value} (hty : ty.isReference = true) (d : Isn b pc .aaload 1 pc') (A : AL Z h a ty vs) (hi : ¬ i < 0) (hv : vs[i.toNatClampNeg]? = some v) (g : Go K n0 kc kj Q T pc' Ls (v :: rest)) : Go K n0 kc kj Q T pc Ls (.int i :: .ref a :: rest) := by
  obtain ⟨d, rfl⟩ := d; obtain ⟨locs, S, N⟩ := X.sd; obtain ⟨c, q, r, s⟩ := A
  have hl : i.toNatClampNeg < vs.length := (List.getElem?_eq_some_iff.mp hv).1
  exact o_go (fun t k => S.aaload X.ex (j := i) (v := v) (by rw [X.hp]; exact q.1) (State.isArrayOf_alike X.wZ.alike q.2.1) hty q.2.2 (AL.inb (a := a) (ty := ty) r hi hl) (by rw [r]; simpa using hv) (g := mkF K.m pc Ls (.int i :: .ref a :: rest)) rfl rfl (X.dec d) t k) g
theorem o_aastore (X : St K Z own b mx ret rm n0 k j T h) {a y : Addr} {C' : String} {vs vs' : List Value} {i : Int32} (d : Isn b pc .aastore 1 pc') (A : AL Z h a (.object C') vs) (O : AO Z h a C') (I : Jvm.RoadKit.Ins Z h y C' true) (hi : ¬ i < 0) (hl : i.toNatClampNeg < vs.length) (ha : n0 ≤ a) (hv : vs.set i.toNatClampNeg (.ref y) = vs')
    (g : ∀ T' h', St K Z own b mx ret rm n0 k j T' h' → Wr h h' a i.toNatClampNeg (.ref y) → AL Z h' a (.object C') vs' → Go K n0 kc kj Q T' pc' Ls (rest)) : Go K n0 kc kj Q T pc Ls (.ref y :: .int i :: .ref a :: rest) := by
  obtain ⟨d, rfl⟩ := d; obtain ⟨locs, S, N⟩ := X.sd; obtain ⟨c, q, r, s⟩ := A
  obtain ⟨c2, q2, r2⟩ := O
  have hO : Ovr Z c.cls C' := by cases q.1.symm.trans q2; exact r2
  obtain ⟨T', h', S', e', W', st'⟩ := stR S X.ex X.wZ X.hp q (j := i) (v := .ref y) (AL.inb (a := a) (ty := .object C') r hi hl) rfl (Sto.of q hO I) (g := mkF K.m pc Ls (.ref y :: .int i :: .ref a :: rest)) rfl rfl (X.dec d)
  exact o_go (fun t k => st' t k) (g T' h' (X.mk' S' (Fr.snoc S' N ha) e') W' (hv ▸ AL.set ⟨c, q, r, s⟩ W'))
/-- an array of ints, booleans, bytes or chars, by a function of the place -/
def AN (Z : State) (h : Heap) (a : Addr) (ty : FieldType) (n : Nat) (f : Nat → Int32) : Prop := ∃ c : Cell, Arr Z h a c ty ∧ c.slots.size = n ∧ n < 2 ^ 31 ∧ ∀ i, i < n → c.slots[i]? = some (.int (f i))
theorem AN.lt {a : Addr} {ty : FieldType} {n : Nat} {f : Nat → Int32} (A : AN Z h a ty n f) : a < h.size := by obtain ⟨c, q, -⟩ := A; exact q.lt
theorem AN.ext {h' : Heap} {a : Addr} {ty : FieldType} {n : Nat} {f : Nat → Int32} (A : AN Z h a ty n f) (E : Ext h h') : AN Z h' a ty n f := by obtain ⟨c, q, r⟩ := A; exact ⟨c, q.ext E, r⟩
theorem AN.other {h' : Heap} {a a' : Addr} {sl : Nat} {v : Value} {ty : FieldType} {n : Nat} {f : Nat → Int32} (A : AN Z h a ty n f) (W : Wr h h' a' sl v) (ne : a ≠ a') : AN Z h' a ty n f := by obtain ⟨c, q, r⟩ := A; exact ⟨c, q.other W ne, r⟩
theorem AN.keep {h' : Heap} {a : Addr} {ws : List Addr} {ty : FieldType} {n : Nat} {f : Nat → Int32} (A : AN Z h a ty n f) (Kp : Keep h h' ws) (q : a ∉ ws) : AN Z h' a ty n f := by obtain ⟨c, A1, r⟩ := A; exact ⟨c, ⟨Kp.2.1 a c A1.1 q, A1.2⟩, r⟩
theorem AN.set {h' : Heap} {a : Addr} {sl : Nat} {v : Int32} {ty : FieldType} {n : Nat} {f : Nat → Int32} (A : AN Z h a ty n f) (W : Wr h h' a sl (.int v)) : AN Z h' a ty n (fun i => if i = sl then v else f i) := by
  obtain ⟨c, q, r, s, t⟩ := A
  refine ⟨_, q.same W, by simpa [Cell.setSlot] using r, s, fun i hi => ?_⟩
  have e := t i hi
  by_cases p : i = sl
  · subst p; have : i < c.slots.size := r ▸ hi
    simp [Cell.setSlot, this]
  · have p' : ¬ sl = i := fun q => p q.symm
    simp [Cell.setSlot, Array.getElem?_setIfInBounds, p, p', e]
theorem AN.inb {n : Nat} {i : Int32} {c : Cell} (r : c.slots.size = n) (hi : ¬ i < 0) (hl : i.toNatClampNeg < n) : ¬ (i < 0 ∨ c.slots.size ≤ i.toNatClampNeg) := by
  rw [r]; rintro (q | q)
  · exact hi q
  · omega
theorem o_alenN (X : St K Z own b mx ret rm n0 k j T h) {a : Addr} {ty : FieldType} {n : Nat} {f : Nat → Int32} (z : Int32) (d : Isn b pc .arraylength 1 pc') (A : AN Z h a ty n f) (hn : n.toInt32 = z) (g : Go K n0 kc kj Q T pc' Ls (.int z :: rest)) : Go K n0 kc kj Q T pc Ls (.ref a :: rest) := by
  obtain ⟨d, rfl⟩ := d; obtain ⟨locs, S, N⟩ := X.sd; obtain ⟨c, q, r, s⟩ := A
  have e : c.slots.size.toInt32 = z := by rw [r, ← hn]
  exact o_go (fun t k => S.arraylength X.ex (cell := c) (by rw [X.hp]; exact q.1) (State.isArrayOf_alike X.wZ.alike q.2.1) (g := mkF K.m pc Ls (.ref a :: rest)) rfl (rest := rest) rfl (X.dec d) t (by rw [e]; exact k)) g

theorem o_ialoadN (X : St K Z own b mx ret rm n0 k j T h) {a : Addr} {n : Nat} {f : Nat → Int32} {i : Int32} (d : Isn b pc .iaload 1 pc') (A : AN Z h a .int n f) (hi : ¬ i < 0) (hl : i.toNatClampNeg < n) (g : Go K n0 kc kj Q T pc' Ls (.int (f i.toNatClampNeg) :: rest)) : Go K n0 kc kj Q T pc Ls (.int i :: .ref a :: rest) := by
  obtain ⟨d, rfl⟩ := d; obtain ⟨locs, S, N⟩ := X.sd; obtain ⟨c, q, r, s, t⟩ := A
  exact o_go (fun t' k => S.iaload X.ex (j := i) (v := .int (f i.toNatClampNeg)) (by rw [X.hp]; exact q.1) (State.isArrayOf_alike X.wZ.alike q.2.1) q.2.2 (AN.inb r hi hl) (t _ hl) (g := mkF K.m pc Ls (.int i :: .ref a :: rest)) rfl rfl (X.dec d) t' k) g
theorem o_caloadN (X : St K Z own b mx ret rm n0 k j T h) {a : Addr} {n : Nat} {f : Nat → Int32} {i : Int32} (d : Isn b pc .caload 1 pc') (A : AN Z h a .char n f) (hi : ¬ i < 0) (hl : i.toNatClampNeg < n) (g : Go K n0 kc kj Q T pc' Ls (.int (f i.toNatClampNeg) :: rest)) : Go K n0 kc kj Q T pc Ls (.int i :: .ref a :: rest) := by
  obtain ⟨d, rfl⟩ := d; obtain ⟨locs, S, N⟩ := X.sd; obtain ⟨c, q, r, s, t⟩ := A
  exact o_go (fun t' k => S.caload X.ex (j := i) (v := .int (f i.toNatClampNeg)) (by rw [X.hp]; exact q.1) (State.isArrayOf_alike X.wZ.alike q.2.1) q.2.2 (AN.inb r hi hl) (t _ hl) (g := mkF K.m pc Ls (.int i :: .ref a :: rest)) rfl rfl (X.dec d) t' k) g
theorem o_baloadN (X : St K Z own b mx ret rm n0 k j T h) {a : Addr} {n : Nat} {f : Nat → Int32} {i : Int32} (d : Isn b pc .baload 1 pc') (A : AN Z h a .byte n f) (hi : ¬ i < 0) (hl : i.toNatClampNeg < n) (g : Go K n0 kc kj Q T pc' Ls (.int (f i.toNatClampNeg) :: rest)) : Go K n0 kc kj Q T pc Ls (.int i :: .ref a :: rest) := by
  obtain ⟨d, rfl⟩ := d; obtain ⟨locs, S, N⟩ := X.sd; obtain ⟨c, q, r, s, t⟩ := A
  exact o_go (fun t' k => S.baloadBytes X.ex (j := i) (v := .int (f i.toNatClampNeg)) (by rw [X.hp]; exact q.1) (State.isArrayOf_alike X.wZ.alike q.2.1) q.2.2 (AN.inb r hi hl) (t _ hl) (g := mkF K.m pc Ls (.int i :: .ref a :: rest)) rfl rfl (X.dec d) t' k) g
theorem o_zaloadN (X : St K Z own b mx ret rm n0 k j T h) {a : Addr} {n : Nat} {f : Nat → Int32} {i : Int32} (d : Isn b pc .baload 1 pc') (A : AN Z h a .boolean n f) (hi : ¬ i < 0) (hl : i.toNatClampNeg < n) (g : Go K n0 kc kj Q T pc' Ls (.int (f i.toNatClampNeg) :: rest)) : Go K n0 kc kj Q T pc Ls (.int i :: .ref a :: rest) := by
  obtain ⟨d, rfl⟩ := d; obtain ⟨locs, S, N⟩ := X.sd; obtain ⟨c, q, r, s, t⟩ := A
  exact o_go (fun t' k => S.baloadBooleans X.ex (j := i) (v := .int (f i.toNatClampNeg)) (by rw [X.hp]; exact q.1) (State.isArrayOf_alike X.wZ.alike q.2.1) q.2.2 (AN.inb r hi hl) (t _ hl) (g := mkF K.m pc Ls (.int i :: .ref a :: rest)) rfl rfl (X.dec d) t' k) g
theorem o_iastoreN (X : St K Z own b mx ret rm n0 k j T h) {a : Addr} {n : Nat} {f : Nat → Int32} {i v : Int32} (d : Isn b pc .iastore 1 pc') (A : AN Z h a .int n f) (hi : ¬ i < 0) (hl : i.toNatClampNeg < n) (ha : n0 ≤ a)
    (g : ∀ T' h', St K Z own b mx ret rm n0 k j T' h' → Wr h h' a i.toNatClampNeg (.int (v)) → AN Z h' a .int n (fun q => if q = i.toNatClampNeg then v else f q) → Go K n0 kc kj Q T' pc' Ls (rest)) : Go K n0 kc kj Q T pc Ls (.int v :: .int i :: .ref a :: rest) := by
  obtain ⟨d, rfl⟩ := d; obtain ⟨locs, S, N⟩ := X.sd; have A0 := A; obtain ⟨c, q, r, s⟩ := A
  obtain ⟨T', h', S', e', W', st'⟩ := stI S X.ex X.wZ X.hp q (j := i) (x := v) (AN.inb r hi hl) (g := mkF K.m pc Ls (.int v :: .int i :: .ref a :: rest)) rfl rfl (X.dec d)
  exact o_go (fun t k => st' t k) (g T' h' (X.mk' S' (Fr.snoc S' N ha) e') W' (A0.set W'))
theorem o_castoreN (X : St K Z own b mx ret rm n0 k j T h) {a : Addr} {n : Nat} {f : Nat → Int32} {i v : Int32} (d : Isn b pc .castore 1 pc') (A : AN Z h a .char n f) (hi : ¬ i < 0) (hl : i.toNatClampNeg < n) (ha : n0 ≤ a)
    (g : ∀ T' h', St K Z own b mx ret rm n0 k j T' h' → Wr h h' a i.toNatClampNeg (.int (nar .char v)) → AN Z h' a .char n (fun q => if q = i.toNatClampNeg then nar .char v else f q) → Go K n0 kc kj Q T' pc' Ls (rest)) : Go K n0 kc kj Q T pc Ls (.int v :: .int i :: .ref a :: rest) := by
  obtain ⟨d, rfl⟩ := d; obtain ⟨locs, S, N⟩ := X.sd; have A0 := A; obtain ⟨c, q, r, s⟩ := A
  obtain ⟨T', h', S', e', W', st'⟩ := stC S X.ex X.wZ X.hp q (j := i) (x := v) (AN.inb r hi hl) (g := mkF K.m pc Ls (.int v :: .int i :: .ref a :: rest)) rfl rfl (X.dec d)
  exact o_go (fun t k => st' t k) (g T' h' (X.mk' S' (Fr.snoc S' N ha) e') W' (A0.set W'))
theorem o_bastoreN (X : St K Z own b mx ret rm n0 k j T h) {a : Addr} {n : Nat} {f : Nat → Int32} {i v : Int32} (d : Isn b pc .bastore 1 pc') (A : AN Z h a .byte n f) (hi : ¬ i < 0) (hl : i.toNatClampNeg < n) (ha : n0 ≤ a)
    (g : ∀ T' h', St K Z own b mx ret rm n0 k j T' h' → Wr h h' a i.toNatClampNeg (.int (nar .byte v)) → AN Z h' a .byte n (fun q => if q = i.toNatClampNeg then nar .byte v else f q) → Go K n0 kc kj Q T' pc' Ls (rest)) : Go K n0 kc kj Q T pc Ls (.int v :: .int i :: .ref a :: rest) := by
  obtain ⟨d, rfl⟩ := d; obtain ⟨locs, S, N⟩ := X.sd; have A0 := A; obtain ⟨c, q, r, s⟩ := A
  obtain ⟨T', h', S', e', W', st'⟩ := stB S X.ex X.wZ X.hp q (j := i) (x := v) (AN.inb r hi hl) (g := mkF K.m pc Ls (.int v :: .int i :: .ref a :: rest)) rfl rfl (X.dec d)
  exact o_go (fun t k => st' t k) (g T' h' (X.mk' S' (Fr.snoc S' N ha) e') W' (A0.set W'))
theorem o_zastoreN (X : St K Z own b mx ret rm n0 k j T h) {a : Addr} {n : Nat} {f : Nat → Int32} {i v : Int32} (d : Isn b pc .bastore 1 pc') (A : AN Z h a .boolean n f) (hi : ¬ i < 0) (hl : i.toNatClampNeg < n) (ha : n0 ≤ a)
    (g : ∀ T' h', St K Z own b mx ret rm n0 k j T' h' → Wr h h' a i.toNatClampNeg (.int (nar .boolean v)) → AN Z h' a .boolean n (fun q => if q = i.toNatClampNeg then nar .boolean v else f q) → Go K n0 kc kj Q T' pc' Ls (rest)) : Go K n0 kc kj Q T pc Ls (.int v :: .int i :: .ref a :: rest) := by
  obtain ⟨d, rfl⟩ := d; obtain ⟨locs, S, N⟩ := X.sd; have A0 := A; obtain ⟨c, q, r, s⟩ := A
  obtain ⟨T', h', S', e', W', st'⟩ := stZ S X.ex X.wZ X.hp q (j := i) (x := v) (AN.inb r hi hl) (g := mkF K.m pc Ls (.int v :: .int i :: .ref a :: rest)) rfl rfl (X.dec d)
  exact o_go (fun t k => st' t k) (g T' h' (X.mk' S' (Fr.snoc S' N ha) e') W' (A0.set W'))
theorem o_newarrayN (X : St K Z own b mx ret rm n0 k j T h) (cap : Nat) {aty : ArrayType} {n : Int32} (m : Nat) (d : Isn b pc (.newarray aty) 2 pc') (wd : (Jvm.Cond.arrayClass (newarray.typeOf aty)).before a0 Z = true) (hn : ¬ n < 0) (hm : n.toNatClampNeg = m) (hcap : m ≤ cap) (hdv : defaultValue (newarray.typeOf aty) = .int 0) (hr : cap * 8 ≤ 536870912 ∧ k + 1 ≤ rm.cells ∧ j + cap ≤ rm.slots)
    (g : ∀ T' h' a, a = h.size → St K Z own b mx ret rm n0 (k + 1) (j + cap) T' h' → Ext h h' → AN Z h' a (newarray.typeOf aty) m (fun _ => 0) → Go K n0 kc kj Q T' pc' Ls (.ref a :: rest)) : Go K n0 kc kj Q T pc Ls (.int n :: rest) := by
  obtain ⟨d, rfl⟩ := d; obtain ⟨locs, S, N⟩ := X.sd; have hR := X.rmE
  obtain ⟨T', h', cA, S', e', E', A', st'⟩ := newP S X.ex X.wZ wd X.hp (g := mkF K.m pc Ls (.int n :: rest)) rfl (X.dec d) rfl hn (hm ▸ hcap) hr.1 (by rw [hR]; exact hr.2.1) (by rw [hR]; exact hr.2.2)
  refine o_go (fun t k => st' t k) (g T' h' h.size rfl (X.mk' S' N e') E' ⟨_, A', ?_, ?_, fun i hi => ?_⟩)
  · simpa [newA] using hm
  · have := (back32 hn).2; omega
  · simp [newA, hm, hi, hdv]
/-- a long array, by a function of the place -/
def LN (Z : State) (h : Heap) (a : Addr) (n : Nat) (f : Nat → Int64) : Prop := ∃ c : Cell, Arr Z h a c .long ∧ c.slots.size = n ∧ n < 2 ^ 31 ∧ ∀ i, i < n → c.slots[i]? = some (.long (f i))
theorem LN.lt {a : Addr} {n : Nat} {f : Nat → Int64} (A : LN Z h a n f) : a < h.size := by obtain ⟨c, q, -⟩ := A; exact q.lt
theorem LN.ext {h' : Heap} {a : Addr} {n : Nat} {f : Nat → Int64} (A : LN Z h a n f) (E : Ext h h') : LN Z h' a n f := by obtain ⟨c, q, r⟩ := A; exact ⟨c, q.ext E, r⟩
theorem LN.other {h' : Heap} {a a' : Addr} {sl : Nat} {v : Value} {n : Nat} {f : Nat → Int64} (A : LN Z h a n f) (W : Wr h h' a' sl v) (ne : a ≠ a') : LN Z h' a n f := by obtain ⟨c, q, r⟩ := A; exact ⟨c, q.other W ne, r⟩
theorem LN.set {h' : Heap} {a : Addr} {sl : Nat} {v : Int64} {n : Nat} {f : Nat → Int64} (A : LN Z h a n f) (W : Wr h h' a sl (.long v)) : LN Z h' a n (fun i => if i = sl then v else f i) := by
  obtain ⟨c, q, r, s, t⟩ := A
  refine ⟨_, q.same W, by simpa [Cell.setSlot] using r, s, fun i hi => ?_⟩
  have e := t i hi
  by_cases p : i = sl
  · subst p; have : i < c.slots.size := r ▸ hi
    simp [Cell.setSlot, this]
  · have p' : ¬ sl = i := fun q => p q.symm
    simp [Cell.setSlot, Array.getElem?_setIfInBounds, p, p', e]
theorem o_alenL (X : St K Z own b mx ret rm n0 k j T h) {a : Addr} {n : Nat} {f : Nat → Int64} (z : Int32) (d : Isn b pc .arraylength 1 pc') (A : LN Z h a n f) (hn : n.toInt32 = z) (g : Go K n0 kc kj Q T pc' Ls (.int z :: rest)) : Go K n0 kc kj Q T pc Ls (.ref a :: rest) := by
  obtain ⟨d, rfl⟩ := d; obtain ⟨locs, S, N⟩ := X.sd; obtain ⟨c, q, r, s⟩ := A
  have e : c.slots.size.toInt32 = z := by rw [r, ← hn]
  exact o_go (fun t k => S.arraylength X.ex (cell := c) (by rw [X.hp]; exact q.1) (State.isArrayOf_alike X.wZ.alike q.2.1) (g := mkF K.m pc Ls (.ref a :: rest)) rfl (rest := rest) rfl (X.dec d) t (by rw [e]; exact k)) g
theorem o_laloadN (X : St K Z own b mx ret rm n0 k j T h) {a : Addr} {n : Nat} {f : Nat → Int64} {i : Int32} (d : Isn b pc .laload 1 pc') (A : LN Z h a n f) (hi : ¬ i < 0) (hl : i.toNatClampNeg < n) (g : Go K n0 kc kj Q T pc' Ls (.long (f i.toNatClampNeg) :: rest)) : Go K n0 kc kj Q T pc Ls (.int i :: .ref a :: rest) := by
  obtain ⟨d, rfl⟩ := d; obtain ⟨locs, S, N⟩ := X.sd; obtain ⟨c, q, r, s, t⟩ := A
  exact o_go (fun t' k => S.laload X.ex (j := i) (v := .long (f i.toNatClampNeg)) (by rw [X.hp]; exact q.1) (State.isArrayOf_alike X.wZ.alike q.2.1) q.2.2 (AN.inb r hi hl) (t _ hl) (g := mkF K.m pc Ls (.int i :: .ref a :: rest)) rfl rfl (X.dec d) t' k) g
theorem o_lastoreN (X : St K Z own b mx ret rm n0 k j T h) {a : Addr} {n : Nat} {f : Nat → Int64} {i : Int32} {v : Int64} (d : Isn b pc .lastore 1 pc') (A : LN Z h a n f) (hi : ¬ i < 0) (hl : i.toNatClampNeg < n) (ha : n0 ≤ a)
    (g : ∀ T' h', St K Z own b mx ret rm n0 k j T' h' → Wr h h' a i.toNatClampNeg (.long v) → LN Z h' a n (fun q => if q = i.toNatClampNeg then v else f q) → Go K n0 kc kj Q T' pc' Ls (rest)) : Go K n0 kc kj Q T pc Ls (.long v :: .int i :: .ref a :: rest) := by
  obtain ⟨d, rfl⟩ := d; obtain ⟨locs, S, N⟩ := X.sd; have A0 := A; obtain ⟨c, q, r, s⟩ := A
  obtain ⟨T', h', S', e', W', st'⟩ := stJ S X.ex X.wZ X.hp q (j := i) (x := v) (AN.inb r hi hl) (g := mkF K.m pc Ls (.long v :: .int i :: .ref a :: rest)) rfl rfl (X.dec d)
  exact o_go (fun t k => st' t k) (g T' h' (X.mk' S' (Fr.snoc S' N ha) e') W' (A0.set W'))
theorem o_newarrayL (X : St K Z own b mx ret rm n0 k j T h) (cap : Nat) {n : Int32} (m : Nat) (d : Isn b pc (.newarray .long) 2 pc') (wd : (Jvm.Cond.arrayClass .long).before a0 Z = true) (hn : ¬ n < 0) (hm : n.toNatClampNeg = m) (hcap : m ≤ cap) (hr : cap * 8 ≤ 536870912 ∧ k + 1 ≤ rm.cells ∧ j + cap ≤ rm.slots)
    (g : ∀ T' h' a, a = h.size → St K Z own b mx ret rm n0 (k + 1) (j + cap) T' h' → Ext h h' → LN Z h' a m (fun _ => 0) → Go K n0 kc kj Q T' pc' Ls (.ref a :: rest)) : Go K n0 kc kj Q T pc Ls (.int n :: rest) := by
  obtain ⟨d, rfl⟩ := d; obtain ⟨locs, S, N⟩ := X.sd; have hR := X.rmE
  obtain ⟨T', h', cA, S', e', E', A', st'⟩ := newP S X.ex X.wZ (aty := .long) wd X.hp (g := mkF K.m pc Ls (.int n :: rest)) rfl (X.dec d) rfl hn (hm ▸ hcap) hr.1 (by rw [hR]; exact hr.2.1) (by rw [hR]; exact hr.2.2)
  refine o_go (fun t k => st' t k) (g T' h' h.size rfl (X.mk' S' N e') E' ⟨_, A', ?_, ?_, fun i hi => ?_⟩)
  · simpa [newA] using hm
  · have := (back32 hn).2; omega
  · have e : defaultValue (newarray.typeOf .long) = .long 0 := rfl
    simp [newA, hm, hi, e]
/-- an object, by all the values of these fields of its class -/
def Obj (Z : State) (h : Heap) (a : Addr) (C : String) (ns : List (String × String)) (vs : List Value) : Prop := Exa Z h a C ∧ ns.length = vs.length ∧ ∀ (i : Nat) (n d : String) (v : Value), ns[i]? = some (n, d) → vs[i]? = some v → Fld Z h a C n d v
def LdAll (Z : State) (a0 : Array Value) (C : String) (ns : List (String × String)) : Prop := (ns.map Prod.fst).Nodup ∧ ∀ q ∈ ns, Laid Z a0 C C q.1 q.2 ∧ ∃ t, parseFieldDescriptor q.2 = some t
variable {h' : Heap} {a a' : Addr} {C : String} {ns : List (String × String)} {vs : List Value} {sl : Nat} {v : Value}
theorem Obj.lt (O : Obj Z h a C ns vs) : a < h.size := O.1.lt
theorem Obj.exa (O : Obj Z h a C ns vs) : Exa Z h a C := O.1
theorem Obj.ext (O : Obj Z h a C ns vs) (E : Ext h h') : Obj Z h' a C ns vs := ⟨O.1.ext E, O.2.1, fun i n d v q r => (O.2.2 i n d v q r).ext E⟩
theorem Obj.other (O : Obj Z h a C ns vs) (W : Wr h h' a' sl v) (ne : a ≠ a') : Obj Z h' a C ns vs := ⟨O.1.wr W, O.2.1, fun i n d v q r => (O.2.2 i n d v q r).other W (Or.inl ne)⟩
theorem Obj.keep {ws : List Addr} (O : Obj Z h a C ns vs) (Kp : Keep h h' ws) (ne : a ∉ ws) : Obj Z h' a C ns vs := ⟨O.1.keep Kp, O.2.1, fun i n d v q r => (O.2.2 i n d v q r).keep Kp ne⟩
theorem Obj.new (E : Exa Z h a C) (D : ∀ {O nm dd : String} {ty : FieldType}, Laid Z a0 C O nm dd → parseFieldDescriptor dd = some ty → Fld Z h a O nm dd (defaultValue ty)) (LA : LdAll Z a0 C ns) (ts : List FieldType) (ht : ns.map (fun q => parseFieldDescriptor q.2) = ts.map some) (hv : ts.map defaultValue = vs) : Obj Z h a C ns vs := by
  refine ⟨E, by rw [← hv]; simpa using congrArg List.length ht, fun i n d v q r => ?_⟩
  subst hv
  obtain ⟨t, ht1, rfl⟩ : ∃ t, ts[i]? = some t ∧ defaultValue t = v := by simpa using r
  have q2 := congrArg (fun L => L[i]?) ht
  simp [q, ht1] at q2
  exact D (LA.2 (n, d) (List.mem_of_getElem? q)).1 q2
theorem Obj.set (O : Obj Z h a C ns vs) (LA : LdAll Z a0 C ns) {n d : String} (W : Wr h h' a (Jvm.RoadKit.slotOf Z C n d) v) (i : Nat) (hi : ns[i]? = some (n, d)) : Obj Z h' a C ns (vs.set i v) := by
  refine ⟨O.1.wr W, by simpa using O.2.1, fun j n' d' v' q r => ?_⟩
  have hil : i < ns.length := (List.getElem?_eq_some_iff.mp hi).1
  by_cases e : i = j
  · subst e
    cases hi.symm.trans q
    have hiv : i < vs.length := O.2.1 ▸ hil
    obtain ⟨w, hw⟩ : ∃ w, vs[i]? = some w := ⟨_, List.getElem?_eq_getElem hiv⟩
    have : v = v' := by simpa [List.getElem?_set, hiv] using r
    subst this
    exact (O.2.2 i n d w hi hw).same W
  · have r' : vs[j]? = some v' := by rw [List.getElem?_set_ne e] at r; exact r
    refine (O.2.2 j n' d' v' q r').other W (Or.inr ?_)
    obtain ⟨l1, t1, p1⟩ := LA.2 _ (List.mem_of_getElem? q)
    obtain ⟨l2, t2, p2⟩ := LA.2 _ (List.mem_of_getElem? hi)
    refine slot_ne l1 l2 (fun eq => e ?_) p1 p2
    have hjl : j < ns.length := (List.getElem?_eq_some_iff.mp q).1
    have e1 : (ns.map Prod.fst)[i]? = some n := by simp [hi]
    have e2 : (ns.map Prod.fst)[j]? = some n' := by simp [q]
    have eq' : n' = n := eq
    subst eq'
    obtain ⟨x1, y1⟩ := List.getElem?_eq_some_iff.mp e1
    obtain ⟨x2, y2⟩ := List.getElem?_eq_some_iff.mp e2
    have P := List.pairwise_iff_getElem.mp LA.1
    rcases Nat.lt_trichotomy i j with z | z | z
    · exact absurd (y1.trans y2.symm) (P i j x1 x2 z)
    · exact z
    · exact absurd (y2.trans y1.symm) (P j i x2 x1 z)
theorem o_getO (X : St K Z own b mx ret rm n0 k j T h) {q : Nat} {n dd : String} (i : Nat) (d : Isn b pc (.getfield q) 3 pc') (wd : (Jvm.Cond.fieldLink own q C n dd).before a0 Z = true) (O : Obj Z h a C ns vs) (hi : ns[i]? = some (n, dd)) (hv : vs[i]? = some v)
    (g : ∀ T', St K Z own b mx ret rm n0 k j T' h → Go K n0 kc kj Q T' pc' Ls (v :: rest)) : Go K n0 kc kj Q T pc Ls (.ref a :: rest) := o_getF X d wd (O.2.2 i n dd v hi hv) g
theorem o_putO (X : St K Z own b mx ret rm n0 k j T h) {q kk : Nat} {n dd : String} {ty : FieldType} {vs' : List Value} (i : Nat) (d : Isn b pc (.putfield q) 3 pc') (wd : (Jvm.Cond.fieldLink own q C n dd).before a0 Z = true) (O : Obj Z h a C ns vs) (LA : LdAll Z a0 C ns) (hi : ns[i]? = some (n, dd))
    (Lf : (Jvm.Cond.lays C C n dd).before a0 Z = true ∨ ((Jvm.Cond.laysFinal C C n dd).before a0 Z = true ∧ own = C ∧ K.meth.name = "<init>")) (wi : (Jvm.Cond.instantiable C kk).before a0 Z = true) (hty : parseFieldDescriptor dd = some ty) (hn : narrow ty v = v) (hf : fits ty v = true) (ha : n0 ≤ a) (hv : vs.set i v = vs')
    (g : ∀ T' h', St K Z own b mx ret rm n0 k j T' h' → Wr h h' a (Jvm.RoadKit.slotOf Z C n dd) v → Obj Z h' a C ns vs' → Go K n0 kc kj Q T' pc' Ls (rest)) : Go K n0 kc kj Q T pc Ls (v :: .ref a :: rest) := by
  have hil : i < vs.length := O.2.1 ▸ (List.getElem?_eq_some_iff.mp hi).1
  exact o_putF X d wd (O.2.2 i n dd _ hi (List.getElem?_eq_getElem hil)) O.1 Lf wi hty hn hf ha fun T' h' X' W => g T' h' X' W (hv ▸ O.set LA W i hi)
end OwnKit
theorem pd0 : parseMethodDescriptor "()V" = some ⟨[], none⟩ := by decide +kernel
theorem pd1 : parseMethodDescriptor "()Z" = some ⟨[], some .boolean⟩ := by decide +kernel
theorem pd2 : parseMethodDescriptor "(II)I" = some ⟨[.int, .int], some .int⟩ := by decide +kernel
theorem pd3 : parseMethodDescriptor "([I)V" = some ⟨[(.array .int)], none⟩ := by decide +kernel
theorem pd4 : parseMethodDescriptor "(IIZ)V" = some ⟨[.int, .int, .boolean], none⟩ := by decide +kernel
theorem pd5 : parseMethodDescriptor "(Lcom/example/underboss/underboss/ViceFight$Side;Lcom/example/underboss/underboss/ViceFight$Side;I)V" = some ⟨[(.object "com/example/underboss/underboss/ViceFight$Side"), (.object "com/example/underboss/underboss/ViceFight$Side"), .int], none⟩ := by decide +kernel
theorem pd6 : parseMethodDescriptor "(Lcom/example/underboss/underboss/ViceFight;[I[IJZ)V" = some ⟨[(.object "com/example/underboss/underboss/ViceFight"), (.array .int), (.array .int), .long, .boolean], none⟩ := by decide +kernel
theorem pd7 : parseMethodDescriptor "()I" = some ⟨[], some .int⟩ := by decide +kernel
theorem pn0 : plainName "com/example/underboss/underboss/ViceFight$Side" = true := by first | (simp [plainName, overriddenIn]; done) | decide +kernel
theorem pn1 : plainName "com/example/underboss/underboss/ViceFight" = true := by first | (simp [plainName, overriddenIn]; done) | decide +kernel
theorem pn2 : plainName "com/example/underboss/underboss/ViceFightWinnerPinLaw" = true := by first | (simp [plainName, overriddenIn]; done) | decide +kernel
def own_nsS : List (String × String) := [("seat", "I"), ("business", "I"), ("gang", "Z")]
theorem own_ldS (Z : State) (a0 : Array Value) (hw : ∀ d ∈ tables_1, d.before a0 Z = true) : LdAll Z a0 "com/example/underboss/underboss/ViceFight$Side" own_nsS := by
  refine ⟨by decide, fun q hq => ?_⟩
  simp only [own_nsS, List.mem_cons, List.not_mem_nil, or_false] at hq
  rcases hq with rfl | rfl | rfl
  · exact ⟨Or.inr (hw _ (List.mem_of_getElem? (i := 15) rfl)), ⟨_, (by decide : parseFieldDescriptor "I" = some .int)⟩⟩
  · exact ⟨Or.inr (hw _ (List.mem_of_getElem? (i := 17) rfl)), ⟨_, (by decide : parseFieldDescriptor "I" = some .int)⟩⟩
  · exact ⟨Or.inr (hw _ (List.mem_of_getElem? (i := 19) rfl)), ⟨_, (by decide : parseFieldDescriptor "Z" = some .boolean)⟩⟩
def own_nsV : List (String × String) := [("wins", "[I"), ("cards", "[I"), ("sides", "[Lcom/example/underboss/underboss/ViceFight$Side;"), ("money", "I")]
theorem own_ldV (Z : State) (a0 : Array Value) (hw : ∀ d ∈ tables_1, d.before a0 Z = true) : LdAll Z a0 "com/example/underboss/underboss/ViceFight" own_nsV := by
  refine ⟨by decide, fun q hq => ?_⟩
  simp only [own_nsV, List.mem_cons, List.not_mem_nil, or_false] at hq
  rcases hq with rfl | rfl | rfl | rfl
  · exact ⟨Or.inr (hw _ (List.mem_of_getElem? (i := 29) rfl)), ⟨_, (by decide : parseFieldDescriptor "[I" = some (.array .int))⟩⟩
  · exact ⟨Or.inr (hw _ (List.mem_of_getElem? (i := 31) rfl)), ⟨_, (by decide : parseFieldDescriptor "[I" = some (.array .int))⟩⟩
  · exact ⟨Or.inr (hw _ (List.mem_of_getElem? (i := 36) rfl)), ⟨_, (by decide : parseFieldDescriptor "[Lcom/example/underboss/underboss/ViceFight$Side;" = some (.array (.object "com/example/underboss/underboss/ViceFight$Side")))⟩⟩
  · exact ⟨Or.inr (hw _ (List.mem_of_getElem? (i := 38) rfl)), ⟨_, (by decide : parseFieldDescriptor "I" = some .int)⟩⟩
theorem f2_0 : Isn jdk_30_method_1_code 0 (.aload_n 0) 1 1 := ⟨by decide +kernel, rfl⟩
theorem f2_1 : Isn jdk_30_method_1_code 1 (.invokespecial 1) 3 4 := ⟨by decide +kernel, rfl⟩
theorem f2_4 : Isn jdk_30_method_1_code 4 (.return_) 1 5 := ⟨by decide +kernel, rfl⟩
theorem f1_0 : Isn prog_8_method_1_code 0 (.aload_n 0) 1 1 := ⟨by decide +kernel, rfl⟩
theorem f1_1 : Isn prog_8_method_1_code 1 (.invokespecial 1) 3 4 := ⟨by decide +kernel, rfl⟩
theorem f1_4 : Isn prog_8_method_1_code 4 (.aload_n 0) 1 5 := ⟨by decide +kernel, rfl⟩
theorem f1_5 : Isn prog_8_method_1_code 5 (.iload_n 1) 1 6 := ⟨by decide +kernel, rfl⟩
theorem f1_6 : Isn prog_8_method_1_code 6 (.putfield 7) 3 9 := ⟨by decide +kernel, rfl⟩
theorem f1_9 : Isn prog_8_method_1_code 9 (.aload_n 0) 1 10 := ⟨by decide +kernel, rfl⟩
theorem f1_10 : Isn prog_8_method_1_code 10 (.iload_n 2) 1 11 := ⟨by decide +kernel, rfl⟩
theorem f1_11 : Isn prog_8_method_1_code 11 (.putfield 13) 3 14 := ⟨by decide +kernel, rfl⟩
theorem f1_14 : Isn prog_8_method_1_code 14 (.aload_n 0) 1 15 := ⟨by decide +kernel, rfl⟩
theorem f1_15 : Isn prog_8_method_1_code 15 (.iload_n 3) 1 16 := ⟨by decide +kernel, rfl⟩
theorem f1_16 : Isn prog_8_method_1_code 16 (.putfield 16) 3 19 := ⟨by decide +kernel, rfl⟩
theorem f1_19 : Isn prog_8_method_1_code 19 (.return_) 1 20 := ⟨by decide +kernel, rfl⟩
theorem f4_0 : Isn prog_7_method_1_code 0 (.aload_n 0) 1 1 := ⟨by decide +kernel, rfl⟩
theorem f4_1 : Isn prog_7_method_1_code 1 (.invokespecial 1) 3 4 := ⟨by decide +kernel, rfl⟩
theorem f4_4 : Isn prog_7_method_1_code 4 (.aload_n 0) 1 5 := ⟨by decide +kernel, rfl⟩
theorem f4_5 : Isn prog_7_method_1_code 5 (.iconst 2) 1 6 := ⟨by decide +kernel, rfl⟩
theorem f4_6 : Isn prog_7_method_1_code 6 (.newarray .int) 2 8 := ⟨by decide +kernel, rfl⟩
theorem f4_8 : Isn prog_7_method_1_code 8 (.putfield 9) 3 11 := ⟨by decide +kernel, rfl⟩
theorem f4_11 : Isn prog_7_method_1_code 11 (.aload_n 0) 1 12 := ⟨by decide +kernel, rfl⟩
theorem f4_12 : Isn prog_7_method_1_code 12 (.iconst 2) 1 13 := ⟨by decide +kernel, rfl⟩
theorem f4_13 : Isn prog_7_method_1_code 13 (.newarray .int) 2 15 := ⟨by decide +kernel, rfl⟩
theorem f4_15 : Isn prog_7_method_1_code 15 (.putfield 13) 3 18 := ⟨by decide +kernel, rfl⟩
theorem f4_18 : Isn prog_7_method_1_code 18 (.aload_n 0) 1 19 := ⟨by decide +kernel, rfl⟩
theorem f4_19 : Isn prog_7_method_1_code 19 (.iconst 2) 1 20 := ⟨by decide +kernel, rfl⟩
theorem f4_20 : Isn prog_7_method_1_code 20 (.anewarray 16) 3 23 := ⟨by decide +kernel, rfl⟩
theorem f4_23 : Isn prog_7_method_1_code 23 (.dup) 1 24 := ⟨by decide +kernel, rfl⟩
theorem f4_24 : Isn prog_7_method_1_code 24 (.iconst 0) 1 25 := ⟨by decide +kernel, rfl⟩
theorem f4_25 : Isn prog_7_method_1_code 25 (.aload_n 1) 1 26 := ⟨by decide +kernel, rfl⟩
theorem f4_26 : Isn prog_7_method_1_code 26 (.aastore) 1 27 := ⟨by decide +kernel, rfl⟩
theorem f4_27 : Isn prog_7_method_1_code 27 (.dup) 1 28 := ⟨by decide +kernel, rfl⟩
theorem f4_28 : Isn prog_7_method_1_code 28 (.iconst 1) 1 29 := ⟨by decide +kernel, rfl⟩
theorem f4_29 : Isn prog_7_method_1_code 29 (.aload_n 2) 1 30 := ⟨by decide +kernel, rfl⟩
theorem f4_30 : Isn prog_7_method_1_code 30 (.aastore) 1 31 := ⟨by decide +kernel, rfl⟩
theorem f4_31 : Isn prog_7_method_1_code 31 (.putfield 18) 3 34 := ⟨by decide +kernel, rfl⟩
theorem f4_34 : Isn prog_7_method_1_code 34 (.aload_n 0) 1 35 := ⟨by decide +kernel, rfl⟩
theorem f4_35 : Isn prog_7_method_1_code 35 (.iload_n 3) 1 36 := ⟨by decide +kernel, rfl⟩
theorem f4_36 : Isn prog_7_method_1_code 36 (.putfield 22) 3 39 := ⟨by decide +kernel, rfl⟩
theorem f4_39 : Isn prog_7_method_1_code 39 (.return_) 1 40 := ⟨by decide +kernel, rfl⟩
set_option maxRecDepth 65536 in
set_option maxHeartbeats 40000000 in
theorem rm2 (l : Launch) (Z : State) (a0 : Array Value) (hw : ∀ d ∈ tables_1, d.before a0 Z = true) (a : Addr) (h : Heap) (n0 : Nat) :
    Ctr l Z (⟨"java/lang/Record", "<init>", "()V"⟩ : MethodName) jdk_30_method_1_code 1 (none) ({ frames := 1, cells := 0, slots := 0, locals := 14 } : Room) [.ref a] h n0 (fun v h' => v = none ∧ h' = h) := by
  refine CtrW.intro (by decide +kernel) rfl #[.val (.ref a)] rfl ?_
  intro K T hnm hl X
  subst hl
  refine o_aload_n X f2_0 rfl rfl ?_
  refine o_initO X 2 f2_1 (hw _ (List.mem_of_getElem? (i := 11) rfl)) (hw _ (List.mem_of_getElem? (i := 12) rfl)) (hw _ (List.mem_of_getElem? (i := 13) rfl)) rfl (by first | exact Nat.zero_le _ | simp [Value.category]) (by decide) ?_
  intro T1 X1
  refine o_ret0 X1 f2_4 (by decide) (by decide) ?_
  exact ⟨rfl, rfl⟩
set_option maxRecDepth 65536 in
set_option maxHeartbeats 40000000 in
theorem rm1 (l : Launch) (Z : State) (a0 : Array Value) (hw : ∀ d ∈ tables_1, d.before a0 Z = true) (a : Addr) (x0 : Int32) (x1 : Int32) (x2 : Int32) (h : Heap) (n0 : Nat) (ha_a : n0 ≤ a) (hg : x2 = 0 ∨ x2 = 1) (O : Obj Z h a "com/example/underboss/underboss/ViceFight$Side" own_nsS [.int 0, .int 0, .int 0]) :
    Ctr l Z (⟨"com/example/underboss/underboss/ViceFight$Side", "<init>", "(IIZ)V"⟩ : MethodName) prog_8_method_1_code 4 (none) ({ frames := 2, cells := 0, slots := 0, locals := 28 } : Room) [.ref a, .int x0, .int x1, .int x2] h n0 (fun v h' => v = none ∧ Keep h h' [a] ∧ Obj Z h' a "com/example/underboss/underboss/ViceFight$Side" own_nsS [.int x0, .int x1, .int x2]) := by
  refine CtrW.intro (plainFor_of_name pn0) rfl #[.val (.ref a), .val (.int x0), .val (.int x1), .val (.int x2)] rfl ?_
  intro K T hnm hl X
  subst hl
  have Kp := Keep.refl h [a]
  have hg1 : narrow .boolean (.int x2) = .int x2 := by rcases hg with rfl | rfl <;> rfl
  have hg2 : fits .boolean (.int x2) = true := by rcases hg with rfl | rfl <;> rfl
  refine o_aload_n X f1_0 rfl rfl ?_
  refine o_callN X 2 f1_1 rfl (hw _ (List.mem_of_getElem? (i := 6) rfl)) (hw _ (List.mem_of_getElem? (i := 7) rfl)) (hw _ (List.mem_of_getElem? (i := 10) rfl)) (hw _ (List.mem_of_getElem? (i := 9) rfl)) (by decide) (rm2 K.l Z a0 hw a _ n0) (lenOf pd0 rfl) rfl rfl (by first | exact Nat.zero_le _ | simp [Value.category]) (by decide) ?_
  rintro T1 h1 v1 ⟨rfl, rfl⟩ X1
  refine o_v0 ?_
  refine o_aload_n X1 f1_4 rfl rfl ?_
  refine o_iload_n X1 f1_5 rfl ?_
  refine o_putO X1 0 f1_6 (hw _ (List.mem_of_getElem? (i := 14) rfl)) O (own_ldS Z a0 hw) rfl (Or.inr ⟨(hw _ (List.mem_of_getElem? (i := 15) rfl)), rfl, hnm⟩) (hw _ (List.mem_of_getElem? (i := 1) rfl)) (ty := .int) (by decide) rfl rfl ha_a (vs' := [_, _, _]) rfl ?_
  intro T2 h2 X2 W2 aF2
  have Kp2 := Kp.wr W2 (Or.inl (by simp))
  refine o_aload_n X2 f1_9 rfl rfl ?_
  refine o_iload_n X2 f1_10 rfl ?_
  refine o_putO X2 1 f1_11 (hw _ (List.mem_of_getElem? (i := 16) rfl)) aF2 (own_ldS Z a0 hw) rfl (Or.inr ⟨(hw _ (List.mem_of_getElem? (i := 17) rfl)), rfl, hnm⟩) (hw _ (List.mem_of_getElem? (i := 1) rfl)) (ty := .int) (by decide) rfl rfl ha_a (vs' := [_, _, _]) rfl ?_
  intro T3 h3 X3 W3 aF3
  have Kp3 := Kp2.wr W3 (Or.inl (by simp))
  refine o_aload_n X3 f1_14 rfl rfl ?_
  refine o_iload_n X3 f1_15 rfl ?_
  refine o_putO X3 2 f1_16 (hw _ (List.mem_of_getElem? (i := 18) rfl)) aF3 (own_ldS Z a0 hw) rfl (Or.inr ⟨(hw _ (List.mem_of_getElem? (i := 19) rfl)), rfl, hnm⟩) (hw _ (List.mem_of_getElem? (i := 1) rfl)) (ty := .boolean) (by decide) hg1 hg2 ha_a (vs' := [_, _, _]) rfl ?_
  intro T4 h4 X4 W4 aF4
  have Kp4 := Kp3.wr W4 (Or.inl (by simp))
  refine o_ret0 X4 f1_19 (by decide) (by decide) ?_
  exact ⟨rfl, Kp4, aF4⟩
set_option maxRecDepth 65536 in
set_option maxHeartbeats 40000000 in
theorem rm4 (l : Launch) (Z : State) (a0 : Array Value) (hw : ∀ d ∈ tables_1, d.before a0 Z = true) (f : Addr) (pa : Addr) (pb : Addr) (x0 : Int32) (h : Heap) (n0 : Nat) (hn0 : n0 ≤ h.size) (ha_f : n0 ≤ f) (vA vD : List Value) (O : Obj Z h f "com/example/underboss/underboss/ViceFight" own_nsV [.null, .null, .null, .int 0]) (OA : Obj Z h pa "com/example/underboss/underboss/ViceFight$Side" own_nsS vA) (OD : Obj Z h pb "com/example/underboss/underboss/ViceFight$Side" own_nsS vD) (n_pa_f : pa ≠ f) (n_pb_f : pb ≠ f) :
    Ctr l Z (⟨"com/example/underboss/underboss/ViceFight", "<init>", "(Lcom/example/underboss/underboss/ViceFight$Side;Lcom/example/underboss/underboss/ViceFight$Side;I)V"⟩ : MethodName) prog_7_method_1_code 4 (none) ({ frames := 1, cells := 3, slots := 6, locals := 16 } : Room) [.ref f, .ref pa, .ref pb, .int x0] h n0 (fun v h' => v = none ∧ Keep h h' [f] ∧ ∃ wn cr sd : Addr, Obj Z h' f "com/example/underboss/underboss/ViceFight" own_nsV [.ref wn, .ref cr, .ref sd, .int x0] ∧ AL Z h' wn .int [.int 0, .int 0] ∧ AL Z h' cr .int [.int 0, .int 0] ∧ AL Z h' sd (.object "com/example/underboss/underboss/ViceFight$Side") [.ref pa, .ref pb] ∧ h.size ≤ wn ∧ h.size ≤ cr ∧ h.size ≤ sd ∧ wn ≠ cr ∧ wn ≠ sd ∧ cr ≠ sd) := by
  refine CtrW.intro (plainFor_of_name pn1) rfl #[.val (.ref f), .val (.ref pa), .val (.ref pb), .val (.int x0)] rfl ?_
  intro K T hnm hl X
  subst hl
  have Kp := Keep.refl h [f]
  have n_f_pa := n_pa_f.symm
  have n_f_pb := n_pb_f.symm
  refine o_aload_n X f4_0 rfl rfl ?_
  refine o_initO X 2 f4_1 (hw _ (List.mem_of_getElem? (i := 26) rfl)) (hw _ (List.mem_of_getElem? (i := 12) rfl)) (hw _ (List.mem_of_getElem? (i := 13) rfl)) rfl (by first | exact Nat.zero_le _ | simp [Value.category]) (by decide) ?_
  intro T1 X1
  refine o_aload_n X1 f4_4 rfl rfl ?_
  refine o_iconst 2 X1 f4_5 rfl ?_
  refine o_newarray X1 2 f4_6 (hw _ (List.mem_of_getElem? (i := 27) rfl)) (by decide) (by decide) (vs := [.int 0, .int 0]) rfl (by decide) ?_
  intro T2 h2 wn e2 X2 E2 wnF2
  have n_f_wn : f ≠ wn := Nat.ne_of_lt (e2 ▸ O.lt)
  have n_wn_f := n_f_wn.symm
  have n_pa_wn : pa ≠ wn := Nat.ne_of_lt (e2 ▸ OA.lt)
  have n_wn_pa := n_pa_wn.symm
  have n_pb_wn : pb ≠ wn := Nat.ne_of_lt (e2 ▸ OD.lt)
  have n_wn_pb := n_pb_wn.symm
  have ha_wn : n0 ≤ wn := e2 ▸ hn0
  have g_wn : h.size ≤ wn := e2 ▸ Kp.1
  have fF2 := O.ext E2
  have paF2 := OA.ext E2
  have pbF2 := OD.ext E2
  have z2 := Nat.le_trans hn0 E2.1
  have Kp2 := Kp.ext E2
  refine o_putO X2 0 f4_8 (hw _ (List.mem_of_getElem? (i := 28) rfl)) fF2 (own_ldV Z a0 hw) rfl (Or.inr ⟨(hw _ (List.mem_of_getElem? (i := 29) rfl)), rfl, hnm⟩) (hw _ (List.mem_of_getElem? (i := 21) rfl)) (ty := (.array .int)) (by decide) rfl rfl ha_f (vs' := [_, _, _, _]) rfl ?_
  intro T3 h3 X3 W3 fF3
  have paF3 := paF2.other W3 n_pa_f
  have pbF3 := pbF2.other W3 n_pb_f
  have wnF3 := wnF2.other W3 n_wn_f
  have z3 := Nat.le_trans z2 (Keep.of_wr W3).1
  have Kp3 := Kp2.wr W3 (Or.inl (by simp))
  refine o_aload_n X3 f4_11 rfl rfl ?_
  refine o_iconst 2 X3 f4_12 rfl ?_
  refine o_newarray X3 2 f4_13 (hw _ (List.mem_of_getElem? (i := 27) rfl)) (by decide) (by decide) (vs := [.int 0, .int 0]) rfl (by decide) ?_
  intro T4 h4 cr e4 X4 E4 crF4
  have n_f_cr : f ≠ cr := Nat.ne_of_lt (e4 ▸ fF3.lt)
  have n_cr_f := n_f_cr.symm
  have n_pa_cr : pa ≠ cr := Nat.ne_of_lt (e4 ▸ paF3.lt)
  have n_cr_pa := n_pa_cr.symm
  have n_pb_cr : pb ≠ cr := Nat.ne_of_lt (e4 ▸ pbF3.lt)
  have n_cr_pb := n_pb_cr.symm
  have n_wn_cr : wn ≠ cr := Nat.ne_of_lt (e4 ▸ wnF3.lt)
  have n_cr_wn := n_wn_cr.symm
  have ha_cr : n0 ≤ cr := e4 ▸ z3
  have g_cr : h.size ≤ cr := e4 ▸ Kp3.1
  have fF4 := fF3.ext E4
  have paF4 := paF3.ext E4
  have pbF4 := pbF3.ext E4
  have wnF4 := wnF3.ext E4
  have z4 := Nat.le_trans z3 E4.1
  have Kp4 := Kp3.ext E4
  refine o_putO X4 1 f4_15 (hw _ (List.mem_of_getElem? (i := 30) rfl)) fF4 (own_ldV Z a0 hw) rfl (Or.inr ⟨(hw _ (List.mem_of_getElem? (i := 31) rfl)), rfl, hnm⟩) (hw _ (List.mem_of_getElem? (i := 21) rfl)) (ty := (.array .int)) (by decide) rfl rfl ha_f (vs' := [_, _, _, _]) rfl ?_
  intro T5 h5 X5 W5 fF5
  have paF5 := paF4.other W5 n_pa_f
  have pbF5 := pbF4.other W5 n_pb_f
  have wnF5 := wnF4.other W5 n_wn_f
  have crF5 := crF4.other W5 n_cr_f
  have z5 := Nat.le_trans z4 (Keep.of_wr W5).1
  have Kp5 := Kp4.wr W5 (Or.inl (by simp))
  refine o_aload_n X5 f4_18 rfl rfl ?_
  refine o_iconst 2 X5 f4_19 rfl ?_
  refine o_anewarray X5 2 f4_20 (hw _ (List.mem_of_getElem? (i := 32) rfl)) (hw _ (List.mem_of_getElem? (i := 33) rfl)) (by decide) (by decide) (vs := [.null, .null]) rfl (by decide) ?_
  intro T6 h6 sd e6 X6 E6 sdF6 sdO6
  have n_f_sd : f ≠ sd := Nat.ne_of_lt (e6 ▸ fF5.lt)
  have n_sd_f := n_f_sd.symm
  have n_pa_sd : pa ≠ sd := Nat.ne_of_lt (e6 ▸ paF5.lt)
  have n_sd_pa := n_pa_sd.symm
  have n_pb_sd : pb ≠ sd := Nat.ne_of_lt (e6 ▸ pbF5.lt)
  have n_sd_pb := n_pb_sd.symm
  have n_wn_sd : wn ≠ sd := Nat.ne_of_lt (e6 ▸ wnF5.lt)
  have n_sd_wn := n_wn_sd.symm
  have n_cr_sd : cr ≠ sd := Nat.ne_of_lt (e6 ▸ crF5.lt)
  have n_sd_cr := n_cr_sd.symm
  have ha_sd : n0 ≤ sd := e6 ▸ z5
  have g_sd : h.size ≤ sd := e6 ▸ Kp5.1
  have fF6 := fF5.ext E6
  have paF6 := paF5.ext E6
  have pbF6 := pbF5.ext E6
  have wnF6 := wnF5.ext E6
  have crF6 := crF5.ext E6
  have z6 := Nat.le_trans z5 E6.1
  have Kp6 := Kp5.ext E6
  refine o_dup X6 f4_23 rfl ?_
  refine o_iconst 0 X6 f4_24 rfl ?_
  refine o_aload_n X6 f4_25 rfl rfl ?_
  refine o_aastore X6 f4_26 sdF6 sdO6 (Jvm.RoadKit.Ins.self paF6.1) (by decide) (Nat.le_of_ble_eq_true rfl) ha_sd (vs' := [_, _]) rfl ?_
  intro T7 h7 X7 W7 sdF7
  have sdO7 := sdO6.wr W7
  have fF7 := fF6.other W7 n_f_sd
  have paF7 := paF6.other W7 n_pa_sd
  have pbF7 := pbF6.other W7 n_pb_sd
  have wnF7 := wnF6.other W7 n_wn_sd
  have crF7 := crF6.other W7 n_cr_sd
  have z7 := Nat.le_trans z6 (Keep.of_wr W7).1
  have Kp7 := Kp6.wr W7 (Or.inr g_sd)
  refine o_dup X7 f4_27 rfl ?_
  refine o_iconst 1 X7 f4_28 rfl ?_
  refine o_aload_n X7 f4_29 rfl rfl ?_
  refine o_aastore X7 f4_30 sdF7 sdO7 (Jvm.RoadKit.Ins.self pbF7.1) (by decide) (Nat.le_of_ble_eq_true rfl) ha_sd (vs' := [_, _]) rfl ?_
  intro T8 h8 X8 W8 sdF8
  have sdO8 := sdO7.wr W8
  have fF8 := fF7.other W8 n_f_sd
  have paF8 := paF7.other W8 n_pa_sd
  have pbF8 := pbF7.other W8 n_pb_sd
  have wnF8 := wnF7.other W8 n_wn_sd
  have crF8 := crF7.other W8 n_cr_sd
  have z8 := Nat.le_trans z7 (Keep.of_wr W8).1
  have Kp8 := Kp7.wr W8 (Or.inr g_sd)
  refine o_putO X8 2 f4_31 (hw _ (List.mem_of_getElem? (i := 35) rfl)) fF8 (own_ldV Z a0 hw) rfl (Or.inr ⟨(hw _ (List.mem_of_getElem? (i := 36) rfl)), rfl, hnm⟩) (hw _ (List.mem_of_getElem? (i := 21) rfl)) (ty := (.array (.object "com/example/underboss/underboss/ViceFight$Side"))) (by decide) rfl rfl ha_f (vs' := [_, _, _, _]) rfl ?_
  intro T9 h9 X9 W9 fF9
  have paF9 := paF8.other W9 n_pa_f
  have pbF9 := pbF8.other W9 n_pb_f
  have wnF9 := wnF8.other W9 n_wn_f
  have crF9 := crF8.other W9 n_cr_f
  have sdF9 := sdF8.other W9 n_sd_f
  have z9 := Nat.le_trans z8 (Keep.of_wr W9).1
  have Kp9 := Kp8.wr W9 (Or.inl (by simp))
  refine o_aload_n X9 f4_34 rfl rfl ?_
  refine o_iload_n X9 f4_35 rfl ?_
  refine o_putO X9 3 f4_36 (hw _ (List.mem_of_getElem? (i := 37) rfl)) fF9 (own_ldV Z a0 hw) rfl (Or.inr ⟨(hw _ (List.mem_of_getElem? (i := 38) rfl)), rfl, hnm⟩) (hw _ (List.mem_of_getElem? (i := 21) rfl)) (ty := .int) (by decide) rfl rfl ha_f (vs' := [_, _, _, _]) rfl ?_
  intro T10 h10 X10 W10 fF10
  have paF10 := paF9.other W10 n_pa_f
  have pbF10 := pbF9.other W10 n_pb_f
  have wnF10 := wnF9.other W10 n_wn_f
  have crF10 := crF9.other W10 n_cr_f
  have sdF10 := sdF9.other W10 n_sd_f
  have z10 := Nat.le_trans z9 (Keep.of_wr W10).1
  have Kp10 := Kp9.wr W10 (Or.inl (by simp))
  refine o_ret0 X10 f4_39 (by decide) (by decide) ?_
  exact ⟨rfl, Kp10, wn, cr, sd, fF10, wnF10, crF10, sdF10, g_wn, g_cr, g_sd, n_wn_cr, n_wn_sd, n_cr_sd⟩
def own_N (n0 : Nat) (f wa di wn cr sd pa pb : Addr) : Prop := n0 ≤ wa ∧ n0 ≤ di ∧ n0 ≤ wn ∧ n0 ≤ cr ∧ f ≠ wa ∧ f ≠ di ∧ f ≠ wn ∧ f ≠ cr ∧ wa ≠ di ∧ wa ≠ wn ∧ wa ≠ cr ∧ wa ≠ sd ∧ wa ≠ pa ∧ wa ≠ pb ∧ di ≠ wn ∧ di ≠ cr ∧ di ≠ sd ∧ di ≠ pa ∧ di ≠ pb ∧ wn ≠ cr ∧ wn ≠ sd ∧ wn ≠ pa ∧ wn ≠ pb ∧ cr ≠ sd ∧ cr ≠ pa ∧ cr ≠ pb
def own_I (Z : State) (h : Heap) (f wa di wn cr sd pa pb : Addr) (p q x y : Int32) : Prop := Obj Z h f "com/example/underboss/underboss/ViceFight" own_nsV [.ref wn, .ref cr, .ref sd, .int 0] ∧ AL Z h wa .int [.int p, .int q] ∧ AL Z h di .int [.int x, .int y] ∧ AL Z h wn .int [.int p, .int q] ∧ AL Z h cr .int [.int 0, .int 0] ∧ AL Z h sd (.object "com/example/underboss/underboss/ViceFight$Side") [.ref pa, .ref pb] ∧ Obj Z h pa "com/example/underboss/underboss/ViceFight$Side" own_nsS [.int 1, .int 0, .int 0] ∧ Obj Z h pb "com/example/underboss/underboss/ViceFight$Side" own_nsS [.int 2, .int 1, .int 0]
def own_w (p q : Int32) : Int32 := if p = 3 then 0 else if q = 3 then 1 else -1

theorem f9_0 : Isn prog_8_method_7_code 0 (.aload_n 0) 1 1 := ⟨by decide +kernel, rfl⟩
theorem f9_1 : Isn prog_8_method_7_code 1 (.getfield 16) 3 4 := ⟨by decide +kernel, rfl⟩
theorem f9_4 : Isn prog_8_method_7_code 4 (.ireturn) 1 5 := ⟨by decide +kernel, rfl⟩
theorem f8_0 : Isn prog_7_method_10_code 0 (.iload_n 2) 1 1 := ⟨by decide +kernel, rfl⟩
theorem f8_1 : Isn prog_7_method_10_code 1 (.aload_n 0) 1 2 := ⟨by decide +kernel, rfl⟩
theorem f8_2 : Isn prog_7_method_10_code 2 (.getfield 13) 3 5 := ⟨by decide +kernel, rfl⟩
theorem f8_5 : Isn prog_7_method_10_code 5 (.iload_n 1) 1 6 := ⟨by decide +kernel, rfl⟩
theorem f8_6 : Isn prog_7_method_10_code 6 (.iaload) 1 7 := ⟨by decide +kernel, rfl⟩
theorem f8_7 : Isn prog_7_method_10_code 7 (.iadd) 1 8 := ⟨by decide +kernel, rfl⟩
theorem f8_8 : Isn prog_7_method_10_code 8 (.aload_n 0) 1 9 := ⟨by decide +kernel, rfl⟩
theorem f8_9 : Isn prog_7_method_10_code 9 (.getfield 18) 3 12 := ⟨by decide +kernel, rfl⟩
theorem f8_12 : Isn prog_7_method_10_code 12 (.iload_n 1) 1 13 := ⟨by decide +kernel, rfl⟩
theorem f8_13 : Isn prog_7_method_10_code 13 (.aaload) 1 14 := ⟨by decide +kernel, rfl⟩
theorem f8_14 : Isn prog_7_method_10_code 14 (.invokevirtual 30) 3 17 := ⟨by decide +kernel, rfl⟩
theorem f8_17 : Brn prog_7_method_10_code 17 (.ifCond .eq 7) 7 20 24 := ⟨by decide +kernel, rfl, by decide, by decide⟩
theorem f8_20 : Isn prog_7_method_10_code 20 (.iconst 1) 1 21 := ⟨by decide +kernel, rfl⟩
theorem f8_21 : Brn prog_7_method_10_code 21 (.goto 4) 4 24 25 := ⟨by decide +kernel, rfl, by decide, by decide⟩
theorem f8_24 : Isn prog_7_method_10_code 24 (.iconst 0) 1 25 := ⟨by decide +kernel, rfl⟩
theorem f8_25 : Isn prog_7_method_10_code 25 (.iadd) 1 26 := ⟨by decide +kernel, rfl⟩
theorem f8_26 : Isn prog_7_method_10_code 26 (.ireturn) 1 27 := ⟨by decide +kernel, rfl⟩
theorem f7_0 : Isn prog_7_method_11_code 0 (.aload_n 0) 1 1 := ⟨by decide +kernel, rfl⟩
theorem f7_1 : Isn prog_7_method_11_code 1 (.iconst 0) 1 2 := ⟨by decide +kernel, rfl⟩
theorem f7_2 : Isn prog_7_method_11_code 2 (.aload_n 1) 1 3 := ⟨by decide +kernel, rfl⟩
theorem f7_3 : Isn prog_7_method_11_code 3 (.iconst 0) 1 4 := ⟨by decide +kernel, rfl⟩
theorem f7_4 : Isn prog_7_method_11_code 4 (.iaload) 1 5 := ⟨by decide +kernel, rfl⟩
theorem f7_5 : Isn prog_7_method_11_code 5 (.invokevirtual 34) 3 8 := ⟨by decide +kernel, rfl⟩
theorem f7_8 : Isn prog_7_method_11_code 8 (.istore_n 2) 1 9 := ⟨by decide +kernel, rfl⟩
theorem f7_9 : Isn prog_7_method_11_code 9 (.aload_n 0) 1 10 := ⟨by decide +kernel, rfl⟩
theorem f7_10 : Isn prog_7_method_11_code 10 (.iconst 1) 1 11 := ⟨by decide +kernel, rfl⟩
theorem f7_11 : Isn prog_7_method_11_code 11 (.aload_n 1) 1 12 := ⟨by decide +kernel, rfl⟩
theorem f7_12 : Isn prog_7_method_11_code 12 (.iconst 1) 1 13 := ⟨by decide +kernel, rfl⟩
theorem f7_13 : Isn prog_7_method_11_code 13 (.iaload) 1 14 := ⟨by decide +kernel, rfl⟩
theorem f7_14 : Isn prog_7_method_11_code 14 (.invokevirtual 34) 3 17 := ⟨by decide +kernel, rfl⟩
theorem f7_17 : Isn prog_7_method_11_code 17 (.istore_n 3) 1 18 := ⟨by decide +kernel, rfl⟩
theorem f7_18 : Isn prog_7_method_11_code 18 (.iload_n 2) 1 19 := ⟨by decide +kernel, rfl⟩
theorem f7_19 : Isn prog_7_method_11_code 19 (.iload_n 3) 1 20 := ⟨by decide +kernel, rfl⟩
theorem f7_20 : Brn prog_7_method_11_code 20 (.if_icmp .le 16) 16 23 36 := ⟨by decide +kernel, rfl, by decide, by decide⟩
theorem f7_23 : Isn prog_7_method_11_code 23 (.aload_n 0) 1 24 := ⟨by decide +kernel, rfl⟩
theorem f7_24 : Isn prog_7_method_11_code 24 (.getfield 9) 3 27 := ⟨by decide +kernel, rfl⟩
theorem f7_27 : Isn prog_7_method_11_code 27 (.iconst 0) 1 28 := ⟨by decide +kernel, rfl⟩
theorem f7_28 : Isn prog_7_method_11_code 28 (.dup2) 1 29 := ⟨by decide +kernel, rfl⟩
theorem f7_29 : Isn prog_7_method_11_code 29 (.iaload) 1 30 := ⟨by decide +kernel, rfl⟩
theorem f7_30 : Isn prog_7_method_11_code 30 (.iconst 1) 1 31 := ⟨by decide +kernel, rfl⟩
theorem f7_31 : Isn prog_7_method_11_code 31 (.iadd) 1 32 := ⟨by decide +kernel, rfl⟩
theorem f7_32 : Isn prog_7_method_11_code 32 (.iastore) 1 33 := ⟨by decide +kernel, rfl⟩
theorem f7_33 : Brn prog_7_method_11_code 33 (.goto 18) 18 36 51 := ⟨by decide +kernel, rfl, by decide, by decide⟩
theorem f7_36 : Isn prog_7_method_11_code 36 (.iload_n 3) 1 37 := ⟨by decide +kernel, rfl⟩
theorem f7_37 : Isn prog_7_method_11_code 37 (.iload_n 2) 1 38 := ⟨by decide +kernel, rfl⟩
theorem f7_38 : Brn prog_7_method_11_code 38 (.if_icmp .le 13) 13 41 51 := ⟨by decide +kernel, rfl, by decide, by decide⟩
theorem f7_41 : Isn prog_7_method_11_code 41 (.aload_n 0) 1 42 := ⟨by decide +kernel, rfl⟩
theorem f7_42 : Isn prog_7_method_11_code 42 (.getfield 9) 3 45 := ⟨by decide +kernel, rfl⟩
theorem f7_45 : Isn prog_7_method_11_code 45 (.iconst 1) 1 46 := ⟨by decide +kernel, rfl⟩
theorem f7_46 : Isn prog_7_method_11_code 46 (.dup2) 1 47 := ⟨by decide +kernel, rfl⟩
theorem f7_47 : Isn prog_7_method_11_code 47 (.iaload) 1 48 := ⟨by decide +kernel, rfl⟩
theorem f7_48 : Isn prog_7_method_11_code 48 (.iconst 1) 1 49 := ⟨by decide +kernel, rfl⟩
theorem f7_49 : Isn prog_7_method_11_code 49 (.iadd) 1 50 := ⟨by decide +kernel, rfl⟩
theorem f7_50 : Isn prog_7_method_11_code 50 (.iastore) 1 51 := ⟨by decide +kernel, rfl⟩
theorem f7_51 : Isn prog_7_method_11_code 51 (.aload_n 0) 1 52 := ⟨by decide +kernel, rfl⟩
theorem f7_52 : Isn prog_7_method_11_code 52 (.getfield 13) 3 55 := ⟨by decide +kernel, rfl⟩
theorem f7_55 : Isn prog_7_method_11_code 55 (.iconst 0) 1 56 := ⟨by decide +kernel, rfl⟩
theorem f7_56 : Isn prog_7_method_11_code 56 (.iconst 0) 1 57 := ⟨by decide +kernel, rfl⟩
theorem f7_57 : Isn prog_7_method_11_code 57 (.iastore) 1 58 := ⟨by decide +kernel, rfl⟩
theorem f7_58 : Isn prog_7_method_11_code 58 (.aload_n 0) 1 59 := ⟨by decide +kernel, rfl⟩
theorem f7_59 : Isn prog_7_method_11_code 59 (.getfield 13) 3 62 := ⟨by decide +kernel, rfl⟩
theorem f7_62 : Isn prog_7_method_11_code 62 (.iconst 1) 1 63 := ⟨by decide +kernel, rfl⟩
theorem f7_63 : Isn prog_7_method_11_code 63 (.iconst 0) 1 64 := ⟨by decide +kernel, rfl⟩
theorem f7_64 : Isn prog_7_method_11_code 64 (.iastore) 1 65 := ⟨by decide +kernel, rfl⟩
theorem f7_65 : Isn prog_7_method_11_code 65 (.return_) 1 66 := ⟨by decide +kernel, rfl⟩
theorem f5_0 : Isn method_2_code 0 (.iload 5) 2 2 := ⟨by decide +kernel, rfl⟩
theorem f5_2 : Brn method_2_code 2 (.ifCond .eq 17) 17 5 19 := ⟨by decide +kernel, rfl, by decide, by decide⟩
theorem f5_5 : Isn method_2_code 5 (.aload_n 1) 1 6 := ⟨by decide +kernel, rfl⟩
theorem f5_6 : Isn method_2_code 6 (.iconst 0) 1 7 := ⟨by decide +kernel, rfl⟩
theorem f5_7 : Isn method_2_code 7 (.iaload) 1 8 := ⟨by decide +kernel, rfl⟩
theorem f5_8 : Isn method_2_code 8 (.iconst 3) 1 9 := ⟨by decide +kernel, rfl⟩
theorem f5_9 : Brn method_2_code 9 (.if_icmp .eq 10) 10 12 19 := ⟨by decide +kernel, rfl, by decide, by decide⟩
theorem f5_12 : Isn method_2_code 12 (.aload_n 1) 1 13 := ⟨by decide +kernel, rfl⟩
theorem f5_13 : Isn method_2_code 13 (.iconst 1) 1 14 := ⟨by decide +kernel, rfl⟩
theorem f5_14 : Isn method_2_code 14 (.iaload) 1 15 := ⟨by decide +kernel, rfl⟩
theorem f5_15 : Isn method_2_code 15 (.iconst 3) 1 16 := ⟨by decide +kernel, rfl⟩
theorem f5_16 : Brn method_2_code 16 (.if_icmp .ne 4) 4 19 20 := ⟨by decide +kernel, rfl, by decide, by decide⟩
theorem f5_19 : Isn method_2_code 19 (.return_) 1 20 := ⟨by decide +kernel, rfl⟩
theorem f5_20 : Isn method_2_code 20 (.lload_n 3) 1 21 := ⟨by decide +kernel, rfl⟩
theorem f5_21 : Isn method_2_code 21 (.l2i) 1 22 := ⟨by decide +kernel, rfl⟩
theorem f5_22 : Isn method_2_code 22 (.istore 6) 2 24 := ⟨by decide +kernel, rfl⟩
theorem f5_24 : Isn method_2_code 24 (.lload_n 3) 1 25 := ⟨by decide +kernel, rfl⟩
theorem f5_25 : Isn method_2_code 25 (.bipush 32) 2 27 := ⟨by decide +kernel, rfl⟩
theorem f5_27 : Isn method_2_code 27 (.lushr) 1 28 := ⟨by decide +kernel, rfl⟩
theorem f5_28 : Isn method_2_code 28 (.l2i) 1 29 := ⟨by decide +kernel, rfl⟩
theorem f5_29 : Isn method_2_code 29 (.istore 7) 2 31 := ⟨by decide +kernel, rfl⟩
theorem f5_31 : Isn method_2_code 31 (.aload_n 2) 1 32 := ⟨by decide +kernel, rfl⟩
theorem f5_32 : Isn method_2_code 32 (.iconst 0) 1 33 := ⟨by decide +kernel, rfl⟩
theorem f5_33 : Isn method_2_code 33 (.iload 6) 2 35 := ⟨by decide +kernel, rfl⟩
theorem f5_35 : Isn method_2_code 35 (.iastore) 1 36 := ⟨by decide +kernel, rfl⟩
theorem f5_36 : Isn method_2_code 36 (.aload_n 2) 1 37 := ⟨by decide +kernel, rfl⟩
theorem f5_37 : Isn method_2_code 37 (.iconst 1) 1 38 := ⟨by decide +kernel, rfl⟩
theorem f5_38 : Isn method_2_code 38 (.iload 7) 2 40 := ⟨by decide +kernel, rfl⟩
theorem f5_40 : Isn method_2_code 40 (.iastore) 1 41 := ⟨by decide +kernel, rfl⟩
theorem f5_41 : Isn method_2_code 41 (.aload_n 0) 1 42 := ⟨by decide +kernel, rfl⟩
theorem f5_42 : Isn method_2_code 42 (.aload_n 2) 1 43 := ⟨by decide +kernel, rfl⟩
theorem f5_43 : Isn method_2_code 43 (.invokevirtual 7) 3 46 := ⟨by decide +kernel, rfl⟩
theorem f5_46 : Isn method_2_code 46 (.iload 6) 2 48 := ⟨by decide +kernel, rfl⟩
theorem f5_48 : Isn method_2_code 48 (.iload 7) 2 50 := ⟨by decide +kernel, rfl⟩
theorem f5_50 : Brn method_2_code 50 (.if_icmp .le 14) 14 53 64 := ⟨by decide +kernel, rfl, by decide, by decide⟩
theorem f5_53 : Isn method_2_code 53 (.aload_n 1) 1 54 := ⟨by decide +kernel, rfl⟩
theorem f5_54 : Isn method_2_code 54 (.iconst 0) 1 55 := ⟨by decide +kernel, rfl⟩
theorem f5_55 : Isn method_2_code 55 (.aload_n 1) 1 56 := ⟨by decide +kernel, rfl⟩
theorem f5_56 : Isn method_2_code 56 (.iconst 0) 1 57 := ⟨by decide +kernel, rfl⟩
theorem f5_57 : Isn method_2_code 57 (.iaload) 1 58 := ⟨by decide +kernel, rfl⟩
theorem f5_58 : Isn method_2_code 58 (.iconst 1) 1 59 := ⟨by decide +kernel, rfl⟩
theorem f5_59 : Isn method_2_code 59 (.iadd) 1 60 := ⟨by decide +kernel, rfl⟩
theorem f5_60 : Isn method_2_code 60 (.iastore) 1 61 := ⟨by decide +kernel, rfl⟩
theorem f5_61 : Brn method_2_code 61 (.goto 18) 18 64 79 := ⟨by decide +kernel, rfl, by decide, by decide⟩
theorem f5_64 : Isn method_2_code 64 (.iload 7) 2 66 := ⟨by decide +kernel, rfl⟩
theorem f5_66 : Isn method_2_code 66 (.iload 6) 2 68 := ⟨by decide +kernel, rfl⟩
theorem f5_68 : Brn method_2_code 68 (.if_icmp .le 11) 11 71 79 := ⟨by decide +kernel, rfl, by decide, by decide⟩
theorem f5_71 : Isn method_2_code 71 (.aload_n 1) 1 72 := ⟨by decide +kernel, rfl⟩
theorem f5_72 : Isn method_2_code 72 (.iconst 1) 1 73 := ⟨by decide +kernel, rfl⟩
theorem f5_73 : Isn method_2_code 73 (.aload_n 1) 1 74 := ⟨by decide +kernel, rfl⟩
theorem f5_74 : Isn method_2_code 74 (.iconst 1) 1 75 := ⟨by decide +kernel, rfl⟩
theorem f5_75 : Isn method_2_code 75 (.iaload) 1 76 := ⟨by decide +kernel, rfl⟩
theorem f5_76 : Isn method_2_code 76 (.iconst 1) 1 77 := ⟨by decide +kernel, rfl⟩
theorem f5_77 : Isn method_2_code 77 (.iadd) 1 78 := ⟨by decide +kernel, rfl⟩
theorem f5_78 : Isn method_2_code 78 (.iastore) 1 79 := ⟨by decide +kernel, rfl⟩
theorem f5_79 : Isn method_2_code 79 (.return_) 1 80 := ⟨by decide +kernel, rfl⟩
theorem f6_0 : Isn prog_7_method_12_code 0 (.iconst 0) 1 1 := ⟨by decide +kernel, rfl⟩
theorem f6_1 : Isn prog_7_method_12_code 1 (.istore_n 1) 1 2 := ⟨by decide +kernel, rfl⟩
theorem f6_2 : Isn prog_7_method_12_code 2 (.iload_n 1) 1 3 := ⟨by decide +kernel, rfl⟩
theorem f6_3 : Isn prog_7_method_12_code 3 (.iconst 2) 1 4 := ⟨by decide +kernel, rfl⟩
theorem f6_4 : Brn prog_7_method_12_code 4 (.if_icmp .ge 21) 21 7 25 := ⟨by decide +kernel, rfl, by decide, by decide⟩
theorem f6_7 : Isn prog_7_method_12_code 7 (.aload_n 0) 1 8 := ⟨by decide +kernel, rfl⟩
theorem f6_8 : Isn prog_7_method_12_code 8 (.getfield 9) 3 11 := ⟨by decide +kernel, rfl⟩
theorem f6_11 : Isn prog_7_method_12_code 11 (.iload_n 1) 1 12 := ⟨by decide +kernel, rfl⟩
theorem f6_12 : Isn prog_7_method_12_code 12 (.iaload) 1 13 := ⟨by decide +kernel, rfl⟩
theorem f6_13 : Isn prog_7_method_12_code 13 (.iconst 3) 1 14 := ⟨by decide +kernel, rfl⟩
theorem f6_14 : Brn prog_7_method_12_code 14 (.if_icmp .ne 5) 5 17 19 := ⟨by decide +kernel, rfl, by decide, by decide⟩
theorem f6_17 : Isn prog_7_method_12_code 17 (.iload_n 1) 1 18 := ⟨by decide +kernel, rfl⟩
theorem f6_18 : Isn prog_7_method_12_code 18 (.ireturn) 1 19 := ⟨by decide +kernel, rfl⟩
theorem f6_19 : Isn prog_7_method_12_code 19 (.iinc 1 1) 3 22 := ⟨by decide +kernel, rfl⟩
theorem f6_22 : Brn prog_7_method_12_code 22 (.goto (-20)) (-20) 25 2 := ⟨by decide +kernel, rfl, by decide, by decide⟩
theorem f6_25 : Isn prog_7_method_12_code 25 (.iconst (-1)) 1 26 := ⟨by decide +kernel, rfl⟩
theorem f6_26 : Isn prog_7_method_12_code 26 (.ireturn) 1 27 := ⟨by decide +kernel, rfl⟩
theorem f0_0 : Isn code 0 (.new 13) 3 3 := ⟨at_0, rfl⟩
theorem f0_3 : Isn code 3 (.dup) 1 4 := ⟨at_3, rfl⟩
theorem f0_4 : Isn code 4 (.iconst 1) 1 5 := ⟨at_4, rfl⟩
theorem f0_5 : Isn code 5 (.iconst 0) 1 6 := ⟨at_5, rfl⟩
theorem f0_6 : Isn code 6 (.iconst 0) 1 7 := ⟨at_6, rfl⟩
theorem f0_7 : Isn code 7 (.invokespecial 15) 3 10 := ⟨at_7, rfl⟩
theorem f0_10 : Isn code 10 (.astore 11) 2 12 := ⟨at_10, rfl⟩
theorem f0_12 : Isn code 12 (.new 13) 3 15 := ⟨at_12, rfl⟩
theorem f0_15 : Isn code 15 (.dup) 1 16 := ⟨at_15, rfl⟩
theorem f0_16 : Isn code 16 (.iconst 2) 1 17 := ⟨at_16, rfl⟩
theorem f0_17 : Isn code 17 (.iconst 1) 1 18 := ⟨at_17, rfl⟩
theorem f0_18 : Isn code 18 (.iconst 0) 1 19 := ⟨at_18, rfl⟩
theorem f0_19 : Isn code 19 (.invokespecial 15) 3 22 := ⟨at_19, rfl⟩
theorem f0_22 : Isn code 22 (.astore 12) 2 24 := ⟨at_22, rfl⟩
theorem f0_24 : Isn code 24 (.new 8) 3 27 := ⟨at_24, rfl⟩
theorem f0_27 : Isn code 27 (.dup) 1 28 := ⟨at_27, rfl⟩
theorem f0_28 : Isn code 28 (.aload 11) 2 30 := ⟨at_28, rfl⟩
theorem f0_30 : Isn code 30 (.aload 12) 2 32 := ⟨at_30, rfl⟩
theorem f0_32 : Isn code 32 (.iconst 0) 1 33 := ⟨at_32, rfl⟩
theorem f0_33 : Isn code 33 (.invokespecial 18) 3 36 := ⟨at_33, rfl⟩
theorem f0_36 : Isn code 36 (.astore 13) 2 38 := ⟨at_36, rfl⟩
theorem f0_38 : Isn code 38 (.iload_n 0) 1 39 := ⟨at_38, rfl⟩
theorem f0_39 : Isn code 39 (.bipush 7) 2 41 := ⟨at_39, rfl⟩
theorem f0_41 : Isn code 41 (.iand) 1 42 := ⟨at_41, rfl⟩
theorem f0_42 : Isn code 42 (.bipush 6) 2 44 := ⟨at_42, rfl⟩
theorem f0_44 : Isn code 44 (.irem) 1 45 := ⟨at_44, rfl⟩
theorem f0_45 : Isn code 45 (.istore 14) 2 47 := ⟨at_45, rfl⟩
theorem f0_47 : Isn code 47 (.iconst 2) 1 48 := ⟨at_47, rfl⟩
theorem f0_48 : Isn code 48 (.newarray .int) 2 50 := ⟨at_48, rfl⟩
theorem f0_50 : Isn code 50 (.astore 15) 2 52 := ⟨at_50, rfl⟩
theorem f0_52 : Isn code 52 (.iconst 2) 1 53 := ⟨at_52, rfl⟩
theorem f0_53 : Isn code 53 (.newarray .int) 2 55 := ⟨at_53, rfl⟩
theorem f0_55 : Isn code 55 (.astore 16) 2 57 := ⟨at_55, rfl⟩
theorem f0_57 : Isn code 57 (.aload 13) 2 59 := ⟨at_57, rfl⟩
theorem f0_59 : Isn code 59 (.aload 15) 2 61 := ⟨at_59, rfl⟩
theorem f0_61 : Isn code 61 (.aload 16) 2 63 := ⟨at_61, rfl⟩
theorem f0_63 : Isn code 63 (.lload_n 1) 1 64 := ⟨at_63, rfl⟩
theorem f0_64 : Isn code 64 (.iload 14) 2 66 := ⟨at_64, rfl⟩
theorem f0_66 : Brn code 66 (.ifCond .le 7) 7 69 73 := ⟨at_66, rfl, by decide, by decide⟩
theorem f0_69 : Isn code 69 (.iconst 1) 1 70 := ⟨at_69, rfl⟩
theorem f0_70 : Brn code 70 (.goto 4) 4 73 74 := ⟨at_70, rfl, by decide, by decide⟩
theorem f0_73 : Isn code 73 (.iconst 0) 1 74 := ⟨at_73, rfl⟩
theorem f0_74 : Isn code 74 (.invokestatic 21) 3 77 := ⟨at_74, rfl⟩
theorem f0_77 : Isn code 77 (.aload 13) 2 79 := ⟨at_77, rfl⟩
theorem f0_79 : Isn code 79 (.aload 15) 2 81 := ⟨at_79, rfl⟩
theorem f0_81 : Isn code 81 (.aload 16) 2 83 := ⟨at_81, rfl⟩
theorem f0_83 : Isn code 83 (.lload_n 3) 1 84 := ⟨at_83, rfl⟩
theorem f0_84 : Isn code 84 (.iload 14) 2 86 := ⟨at_84, rfl⟩
theorem f0_86 : Isn code 86 (.iconst 1) 1 87 := ⟨at_86, rfl⟩
theorem f0_87 : Brn code 87 (.if_icmp .le 7) 7 90 94 := ⟨at_87, rfl, by decide, by decide⟩
theorem f0_90 : Isn code 90 (.iconst 1) 1 91 := ⟨at_90, rfl⟩
theorem f0_91 : Brn code 91 (.goto 4) 4 94 95 := ⟨at_91, rfl, by decide, by decide⟩
theorem f0_94 : Isn code 94 (.iconst 0) 1 95 := ⟨at_94, rfl⟩
theorem f0_95 : Isn code 95 (.invokestatic 21) 3 98 := ⟨at_95, rfl⟩
theorem f0_98 : Isn code 98 (.aload 13) 2 100 := ⟨at_98, rfl⟩
theorem f0_100 : Isn code 100 (.aload 15) 2 102 := ⟨at_100, rfl⟩
theorem f0_102 : Isn code 102 (.aload 16) 2 104 := ⟨at_102, rfl⟩
theorem f0_104 : Isn code 104 (.lload 5) 2 106 := ⟨at_104, rfl⟩
theorem f0_106 : Isn code 106 (.iload 14) 2 108 := ⟨at_106, rfl⟩
theorem f0_108 : Isn code 108 (.iconst 2) 1 109 := ⟨at_108, rfl⟩
theorem f0_109 : Brn code 109 (.if_icmp .le 7) 7 112 116 := ⟨at_109, rfl, by decide, by decide⟩
theorem f0_112 : Isn code 112 (.iconst 1) 1 113 := ⟨at_112, rfl⟩
theorem f0_113 : Brn code 113 (.goto 4) 4 116 117 := ⟨at_113, rfl, by decide, by decide⟩
theorem f0_116 : Isn code 116 (.iconst 0) 1 117 := ⟨at_116, rfl⟩
theorem f0_117 : Isn code 117 (.invokestatic 21) 3 120 := ⟨at_117, rfl⟩
theorem f0_120 : Isn code 120 (.aload 13) 2 122 := ⟨at_120, rfl⟩
theorem f0_122 : Isn code 122 (.aload 15) 2 124 := ⟨at_122, rfl⟩
theorem f0_124 : Isn code 124 (.aload 16) 2 126 := ⟨at_124, rfl⟩
theorem f0_126 : Isn code 126 (.lload 7) 2 128 := ⟨at_126, rfl⟩
theorem f0_128 : Isn code 128 (.iload 14) 2 130 := ⟨at_128, rfl⟩
theorem f0_130 : Isn code 130 (.iconst 3) 1 131 := ⟨at_130, rfl⟩
theorem f0_131 : Brn code 131 (.if_icmp .le 7) 7 134 138 := ⟨at_131, rfl, by decide, by decide⟩
theorem f0_134 : Isn code 134 (.iconst 1) 1 135 := ⟨at_134, rfl⟩
theorem f0_135 : Brn code 135 (.goto 4) 4 138 139 := ⟨at_135, rfl, by decide, by decide⟩
theorem f0_138 : Isn code 138 (.iconst 0) 1 139 := ⟨at_138, rfl⟩
theorem f0_139 : Isn code 139 (.invokestatic 21) 3 142 := ⟨at_139, rfl⟩
theorem f0_142 : Isn code 142 (.aload 13) 2 144 := ⟨at_142, rfl⟩
theorem f0_144 : Isn code 144 (.aload 15) 2 146 := ⟨at_144, rfl⟩
theorem f0_146 : Isn code 146 (.aload 16) 2 148 := ⟨at_146, rfl⟩
theorem f0_148 : Isn code 148 (.lload 9) 2 150 := ⟨at_148, rfl⟩
theorem f0_150 : Isn code 150 (.iload 14) 2 152 := ⟨at_150, rfl⟩
theorem f0_152 : Isn code 152 (.iconst 4) 1 153 := ⟨at_152, rfl⟩
theorem f0_153 : Brn code 153 (.if_icmp .le 7) 7 156 160 := ⟨at_153, rfl, by decide, by decide⟩
theorem f0_156 : Isn code 156 (.iconst 1) 1 157 := ⟨at_156, rfl⟩
theorem f0_157 : Brn code 157 (.goto 4) 4 160 161 := ⟨at_157, rfl, by decide, by decide⟩
theorem f0_160 : Isn code 160 (.iconst 0) 1 161 := ⟨at_160, rfl⟩
theorem f0_161 : Isn code 161 (.invokestatic 21) 3 164 := ⟨at_161, rfl⟩
theorem f0_164 : Isn code 164 (.iconst (-1)) 1 165 := ⟨at_164, rfl⟩
theorem f0_165 : Isn code 165 (.istore 17) 2 167 := ⟨at_165, rfl⟩
theorem f0_167 : Isn code 167 (.aload 15) 2 169 := ⟨at_167, rfl⟩
theorem f0_169 : Isn code 169 (.iconst 0) 1 170 := ⟨at_169, rfl⟩
theorem f0_170 : Isn code 170 (.iaload) 1 171 := ⟨at_170, rfl⟩
theorem f0_171 : Isn code 171 (.iconst 3) 1 172 := ⟨at_171, rfl⟩
theorem f0_172 : Brn code 172 (.if_icmp .ne 9) 9 175 181 := ⟨at_172, rfl, by decide, by decide⟩
theorem f0_175 : Isn code 175 (.iconst 0) 1 176 := ⟨at_175, rfl⟩
theorem f0_176 : Isn code 176 (.istore 17) 2 178 := ⟨at_176, rfl⟩
theorem f0_178 : Brn code 178 (.goto 14) 14 181 192 := ⟨at_178, rfl, by decide, by decide⟩
theorem f0_181 : Isn code 181 (.aload 15) 2 183 := ⟨at_181, rfl⟩
theorem f0_183 : Isn code 183 (.iconst 1) 1 184 := ⟨at_183, rfl⟩
theorem f0_184 : Isn code 184 (.iaload) 1 185 := ⟨at_184, rfl⟩
theorem f0_185 : Isn code 185 (.iconst 3) 1 186 := ⟨at_185, rfl⟩
theorem f0_186 : Brn code 186 (.if_icmp .ne 6) 6 189 192 := ⟨at_186, rfl, by decide, by decide⟩
theorem f0_189 : Isn code 189 (.iconst 1) 1 190 := ⟨at_189, rfl⟩
theorem f0_190 : Isn code 190 (.istore 17) 2 192 := ⟨at_190, rfl⟩
theorem f0_192 : Isn code 192 (.aload 13) 2 194 := ⟨at_192, rfl⟩
theorem f0_194 : Isn code 194 (.invokevirtual 27) 3 197 := ⟨at_194, rfl⟩
theorem f0_197 : Isn code 197 (.iload 17) 2 199 := ⟨at_197, rfl⟩
theorem f0_199 : Brn code 199 (.if_icmp .ne 7) 7 202 206 := ⟨at_199, rfl, by decide, by decide⟩
theorem f0_202 : Isn code 202 (.iconst 1) 1 203 := ⟨at_202, rfl⟩
theorem f0_203 : Brn code 203 (.goto 4) 4 206 207 := ⟨at_203, rfl, by decide, by decide⟩
theorem f0_206 : Isn code 206 (.iconst 0) 1 207 := ⟨at_206, rfl⟩
theorem f0_207 : Isn code 207 (.ireturn) 1 208 := ⟨at_207, rfl⟩
set_option maxRecDepth 65536 in
set_option maxHeartbeats 40000000 in
theorem rm9 (l : Launch) (Z : State) (a0 : Array Value) (hw : ∀ d ∈ tables_1, d.before a0 Z = true) (a : Addr) (h : Heap) (n0 : Nat) (s0 s1 : Int32) (O : Obj Z h a "com/example/underboss/underboss/ViceFight$Side" own_nsS [.int s0, .int s1, .int 0]) :
    Ctr l Z (⟨"com/example/underboss/underboss/ViceFight$Side", "gang", "()Z"⟩ : MethodName) prog_8_method_7_code 1 (some (.boolean)) ({ frames := 0, cells := 0, slots := 0, locals := 0 } : Room) [.ref a] h n0 (fun v h' => v = some (.int 0) ∧ h' = h) := by
  refine CtrW.intro (plainFor_of_name pn0) rfl #[.val (.ref a)] rfl ?_
  intro K T hnm hl X
  subst hl
  refine o_aload_n X f9_0 rfl rfl ?_
  refine o_getO X 2 f9_1 (hw _ (List.mem_of_getElem? (i := 18) rfl)) O rfl rfl ?_
  intro T1 X1
  refine o_retZ X1 f9_4 (by decide) (by decide) ?_
  exact ⟨rfl, rfl⟩
set_option maxRecDepth 65536 in
set_option maxHeartbeats 40000000 in
theorem rm8 (l : Launch) (Z : State) (a0 : Array Value) (hw : ∀ d ∈ tables_1, d.before a0 Z = true) (f : Addr) (x1 : Int32) (x2 : Int32) (h : Heap) (n0 : Nat) (wa di wn cr sd pa pb : Addr) (p q x y : Int32) (hs : x1 = 0 ∨ x1 = 1) (I : own_I Z h f wa di wn cr sd pa pb p q x y) :
    Ctr l Z (⟨"com/example/underboss/underboss/ViceFight", "score", "(II)I"⟩ : MethodName) prog_7_method_10_code 3 (some (.int)) ({ frames := 1, cells := 0, slots := 0, locals := 16 } : Room) [.ref f, .int x1, .int x2] h n0 (fun v h' => v = some (.int x2) ∧ h' = h) := by
  refine CtrW.intro (plainFor_of_name pn1) rfl #[.val (.ref f), .val (.int x1), .val (.int x2)] rfl ?_
  intro K T hnm hl X
  subst hl
  obtain ⟨fF, waF, diF, wnF, crF, sdF, paF, pbF⟩ := I
  rcases hs with rfl | rfl
  · refine o_iload_n X f8_0 rfl ?_
    refine o_aload_n X f8_1 rfl rfl ?_
    refine o_getO X 1 f8_2 (hw _ (List.mem_of_getElem? (i := 30) rfl)) fF rfl rfl ?_
    intro T1 X1
    refine o_iload_n X1 f8_5 rfl ?_
    refine o_iaload X1 f8_6 crF (by decide) rfl ?_
    refine o_iadd X1 f8_7 ?_
    refine o_aload_n X1 f8_8 rfl rfl ?_
    refine o_getO X1 2 f8_9 (hw _ (List.mem_of_getElem? (i := 35) rfl)) fF rfl rfl ?_
    intro T2 X2
    refine o_iload_n X2 f8_12 rfl ?_
    refine o_aaload X2 rfl f8_13 sdF (by decide) rfl ?_
    refine o_callV X2 4 f8_14 (hw _ (List.mem_of_getElem? (i := 58) rfl)) (hw _ (List.mem_of_getElem? (i := 59) rfl)) (hw _ (List.mem_of_getElem? (i := 61) rfl)) (hw _ (List.mem_of_getElem? (i := 61) rfl)) (hw _ (List.mem_of_getElem? (i := 60) rfl)) (by decide) (hw _ (List.mem_of_getElem? (i := 62) rfl)) (hw _ (List.mem_of_getElem? (i := 2) rfl)) (rm9 K.l Z a0 hw pa _ n0 _ _ paF) paF.1 (lenOf pd1 rfl) rfl rfl (by first | exact Nat.zero_le _ | simp [Value.category]) (by decide) ?_
    rintro T3 h3 v3 ⟨rfl, rfl⟩ X3
    refine o_v1 ?_
    refine o_if_eq_t X3 f8_17 (rfl) ?_
    refine o_iconst 0 X3 f8_24 rfl ?_
    refine o_iadd X3 f8_25 ?_
    refine o_retI X3 f8_26 (by decide) (by decide) ?_
    exact ⟨by simp, rfl⟩
  · refine o_iload_n X f8_0 rfl ?_
    refine o_aload_n X f8_1 rfl rfl ?_
    refine o_getO X 1 f8_2 (hw _ (List.mem_of_getElem? (i := 30) rfl)) fF rfl rfl ?_
    intro T1 X1
    refine o_iload_n X1 f8_5 rfl ?_
    refine o_iaload X1 f8_6 crF (by decide) rfl ?_
    refine o_iadd X1 f8_7 ?_
    refine o_aload_n X1 f8_8 rfl rfl ?_
    refine o_getO X1 2 f8_9 (hw _ (List.mem_of_getElem? (i := 35) rfl)) fF rfl rfl ?_
    intro T2 X2
    refine o_iload_n X2 f8_12 rfl ?_
    refine o_aaload X2 rfl f8_13 sdF (by decide) rfl ?_
    refine o_callV X2 4 f8_14 (hw _ (List.mem_of_getElem? (i := 58) rfl)) (hw _ (List.mem_of_getElem? (i := 59) rfl)) (hw _ (List.mem_of_getElem? (i := 61) rfl)) (hw _ (List.mem_of_getElem? (i := 61) rfl)) (hw _ (List.mem_of_getElem? (i := 60) rfl)) (by decide) (hw _ (List.mem_of_getElem? (i := 62) rfl)) (hw _ (List.mem_of_getElem? (i := 2) rfl)) (rm9 K.l Z a0 hw pb _ n0 _ _ pbF) pbF.1 (lenOf pd1 rfl) rfl rfl (by first | exact Nat.zero_le _ | simp [Value.category]) (by decide) ?_
    rintro T3 h3 v3 ⟨rfl, rfl⟩ X3
    refine o_v1 ?_
    refine o_if_eq_t X3 f8_17 (rfl) ?_
    refine o_iconst 0 X3 f8_24 rfl ?_
    refine o_iadd X3 f8_25 ?_
    refine o_retI X3 f8_26 (by decide) (by decide) ?_
    exact ⟨by simp, rfl⟩
set_option maxRecDepth 65536 in
set_option maxHeartbeats 40000000 in
theorem rm7 (l : Launch) (Z : State) (a0 : Array Value) (hw : ∀ d ∈ tables_1, d.before a0 Z = true) (f : Addr) (di : Addr) (h : Heap) (n0 : Nat) (wa wn cr sd pa pb : Addr) (p q x y : Int32) (N : own_N n0 f wa di wn cr sd pa pb) (I : own_I Z h f wa di wn cr sd pa pb p q x y) :
    Ctr l Z (⟨"com/example/underboss/underboss/ViceFight", "duel", "([I)V"⟩ : MethodName) prog_7_method_11_code 4 (none) ({ frames := 2, cells := 0, slots := 0, locals := 34 } : Room) [.ref f, .ref di] h n0 (fun v h' => v = none ∧ Keep h h' [wn, cr] ∧ AL Z h' wn .int [.int (if y < x then p + 1 else p), .int (if y < x then q else if x < y then q + 1 else q)] ∧ AL Z h' cr .int [.int 0, .int 0]) := by
  refine CtrW.intro (plainFor_of_name pn1) rfl #[.val (.ref f), .val (.ref di), .unset, .unset] rfl ?_
  intro K T hnm hl X
  subst hl
  obtain ⟨ha_wa, ha_di, ha_wn, ha_cr, n_f_wa, n_f_di, n_f_wn, n_f_cr, n_wa_di, n_wa_wn, n_wa_cr, n_wa_sd, n_wa_pa, n_wa_pb, n_di_wn, n_di_cr, n_di_sd, n_di_pa, n_di_pb, n_wn_cr, n_wn_sd, n_wn_pa, n_wn_pb, n_cr_sd, n_cr_pa, n_cr_pb⟩ := N
  have n_wa_f := n_f_wa.symm
  have n_di_f := n_f_di.symm
  have n_wn_f := n_f_wn.symm
  have n_cr_f := n_f_cr.symm
  have n_di_wa := n_wa_di.symm
  have n_wn_wa := n_wa_wn.symm
  have n_cr_wa := n_wa_cr.symm
  have n_sd_wa := n_wa_sd.symm
  have n_pa_wa := n_wa_pa.symm
  have n_pb_wa := n_wa_pb.symm
  have n_wn_di := n_di_wn.symm
  have n_cr_di := n_di_cr.symm
  have n_sd_di := n_di_sd.symm
  have n_pa_di := n_di_pa.symm
  have n_pb_di := n_di_pb.symm
  have n_cr_wn := n_wn_cr.symm
  have n_sd_wn := n_wn_sd.symm
  have n_pa_wn := n_wn_pa.symm
  have n_pb_wn := n_wn_pb.symm
  have n_sd_cr := n_cr_sd.symm
  have n_pa_cr := n_cr_pa.symm
  have n_pb_cr := n_cr_pb.symm
  have I0 := I
  obtain ⟨fF, waF, diF, wnF, crF, sdF, paF, pbF⟩ := I
  have Kp := Keep.refl h [wn, cr]
  refine o_aload_n X f7_0 rfl rfl ?_
  refine o_iconst 0 X f7_1 rfl ?_
  refine o_aload_n X f7_2 rfl rfl ?_
  refine o_iconst 0 X f7_3 rfl ?_
  refine o_iaload X f7_4 diF (by decide) rfl ?_
  refine o_callV X 4 f7_5 (hw _ (List.mem_of_getElem? (i := 53) rfl)) (hw _ (List.mem_of_getElem? (i := 54) rfl)) (hw _ (List.mem_of_getElem? (i := 56) rfl)) (hw _ (List.mem_of_getElem? (i := 56) rfl)) (hw _ (List.mem_of_getElem? (i := 55) rfl)) (by decide) (hw _ (List.mem_of_getElem? (i := 57) rfl)) (hw _ (List.mem_of_getElem? (i := 22) rfl)) (rm8 K.l Z a0 hw f _ _ _ n0 wa di wn cr sd pa pb p q x y (Or.inl rfl) I0) fF.1 (lenOf pd2 rfl) rfl rfl (by first | exact Nat.zero_le _ | simp [Value.category]) (by decide) ?_
  rintro T1 h1 v1 ⟨rfl, rfl⟩ X1
  refine o_v1 ?_
  refine o_istore_n X1 f7_8 (Ls' := #[_, _, _, _]) rfl ?_
  refine o_aload_n X1 f7_9 rfl rfl ?_
  refine o_iconst 1 X1 f7_10 rfl ?_
  refine o_aload_n X1 f7_11 rfl rfl ?_
  refine o_iconst 1 X1 f7_12 rfl ?_
  refine o_iaload X1 f7_13 diF (by decide) rfl ?_
  refine o_callV X1 4 f7_14 (hw _ (List.mem_of_getElem? (i := 53) rfl)) (hw _ (List.mem_of_getElem? (i := 54) rfl)) (hw _ (List.mem_of_getElem? (i := 56) rfl)) (hw _ (List.mem_of_getElem? (i := 56) rfl)) (hw _ (List.mem_of_getElem? (i := 55) rfl)) (by decide) (hw _ (List.mem_of_getElem? (i := 57) rfl)) (hw _ (List.mem_of_getElem? (i := 22) rfl)) (rm8 K.l Z a0 hw f _ _ _ n0 wa di wn cr sd pa pb p q x y (Or.inr rfl) I0) fF.1 (lenOf pd2 rfl) rfl rfl (by first | exact Nat.zero_le _ | simp [Value.category]) (by decide) ?_
  rintro T2 h2 v2 ⟨rfl, rfl⟩ X2
  refine o_v1 ?_
  refine o_istore_n X2 f7_17 (Ls' := #[_, _, _, _]) rfl ?_
  refine o_iload_n X2 f7_18 rfl ?_
  refine o_iload_n X2 f7_19 rfl ?_
  refine o_icmp_le X2 f7_20 (fun q20 => ?_) (fun q20 => ?_)
  · refine o_iload_n X2 f7_36 rfl ?_
    refine o_iload_n X2 f7_37 rfl ?_
    refine o_icmp_le X2 f7_38 (fun q38 => ?_) (fun q38 => ?_)
    · refine o_aload_n X2 f7_51 rfl rfl ?_
      refine o_getO X2 1 f7_52 (hw _ (List.mem_of_getElem? (i := 30) rfl)) fF rfl rfl ?_
      intro T3 X3
      refine o_iconst 0 X3 f7_55 rfl ?_
      refine o_iconst 0 X3 f7_56 rfl ?_
      refine o_iastore X3 f7_57 crF (by decide) (Nat.le_of_ble_eq_true rfl) ha_cr (vs' := [_, _]) rfl ?_
      intro T4 h4 X4 W4 crF4
      have fF4 := fF.other W4 n_f_cr
      have waF4 := waF.other W4 n_wa_cr
      have diF4 := diF.other W4 n_di_cr
      have wnF4 := wnF.other W4 n_wn_cr
      have sdF4 := sdF.other W4 n_sd_cr
      have paF4 := paF.other W4 n_pa_cr
      have pbF4 := pbF.other W4 n_pb_cr
      have Kp4 := Kp.wr W4 (Or.inl (by simp))
      refine o_aload_n X4 f7_58 rfl rfl ?_
      refine o_getO X4 1 f7_59 (hw _ (List.mem_of_getElem? (i := 30) rfl)) fF4 rfl rfl ?_
      intro T5 X5
      refine o_iconst 1 X5 f7_62 rfl ?_
      refine o_iconst 0 X5 f7_63 rfl ?_
      refine o_iastore X5 f7_64 crF4 (by decide) (Nat.le_of_ble_eq_true rfl) ha_cr (vs' := [_, _]) rfl ?_
      intro T6 h6 X6 W6 crF6
      have fF6 := fF4.other W6 n_f_cr
      have waF6 := waF4.other W6 n_wa_cr
      have diF6 := diF4.other W6 n_di_cr
      have wnF6 := wnF4.other W6 n_wn_cr
      have sdF6 := sdF4.other W6 n_sd_cr
      have paF6 := paF4.other W6 n_pa_cr
      have pbF6 := pbF4.other W6 n_pb_cr
      have Kp6 := Kp4.wr W6 (Or.inl (by simp))
      refine o_ret0 X6 f7_65 (by decide) (by decide) ?_
      exact ⟨rfl, Kp6, by simpa only [q20, q38, ↓reduceIte, if_true, if_false] using wnF6, crF6⟩
    · refine o_aload_n X2 f7_41 rfl rfl ?_
      refine o_getO X2 0 f7_42 (hw _ (List.mem_of_getElem? (i := 28) rfl)) fF rfl rfl ?_
      intro T7 X7
      refine o_iconst 1 X7 f7_45 rfl ?_
      refine o_dup2 X7 f7_46 rfl rfl ?_
      refine o_iaload X7 f7_47 wnF (by decide) rfl ?_
      refine o_iconst 1 X7 f7_48 rfl ?_
      refine o_iadd X7 f7_49 ?_
      refine o_iastore X7 f7_50 wnF (by decide) (Nat.le_of_ble_eq_true rfl) ha_wn (vs' := [_, _]) rfl ?_
      intro T8 h8 X8 W8 wnF8
      have fF8 := fF.other W8 n_f_wn
      have waF8 := waF.other W8 n_wa_wn
      have diF8 := diF.other W8 n_di_wn
      have crF8 := crF.other W8 n_cr_wn
      have sdF8 := sdF.other W8 n_sd_wn
      have paF8 := paF.other W8 n_pa_wn
      have pbF8 := pbF.other W8 n_pb_wn
      have Kp8 := Kp.wr W8 (Or.inl (by simp))
      refine o_aload_n X8 f7_51 rfl rfl ?_
      refine o_getO X8 1 f7_52 (hw _ (List.mem_of_getElem? (i := 30) rfl)) fF8 rfl rfl ?_
      intro T9 X9
      refine o_iconst 0 X9 f7_55 rfl ?_
      refine o_iconst 0 X9 f7_56 rfl ?_
      refine o_iastore X9 f7_57 crF8 (by decide) (Nat.le_of_ble_eq_true rfl) ha_cr (vs' := [_, _]) rfl ?_
      intro T10 h10 X10 W10 crF10
      have fF10 := fF8.other W10 n_f_cr
      have waF10 := waF8.other W10 n_wa_cr
      have diF10 := diF8.other W10 n_di_cr
      have wnF10 := wnF8.other W10 n_wn_cr
      have sdF10 := sdF8.other W10 n_sd_cr
      have paF10 := paF8.other W10 n_pa_cr
      have pbF10 := pbF8.other W10 n_pb_cr
      have Kp10 := Kp8.wr W10 (Or.inl (by simp))
      refine o_aload_n X10 f7_58 rfl rfl ?_
      refine o_getO X10 1 f7_59 (hw _ (List.mem_of_getElem? (i := 30) rfl)) fF10 rfl rfl ?_
      intro T11 X11
      refine o_iconst 1 X11 f7_62 rfl ?_
      refine o_iconst 0 X11 f7_63 rfl ?_
      refine o_iastore X11 f7_64 crF10 (by decide) (Nat.le_of_ble_eq_true rfl) ha_cr (vs' := [_, _]) rfl ?_
      intro T12 h12 X12 W12 crF12
      have fF12 := fF10.other W12 n_f_cr
      have waF12 := waF10.other W12 n_wa_cr
      have diF12 := diF10.other W12 n_di_cr
      have wnF12 := wnF10.other W12 n_wn_cr
      have sdF12 := sdF10.other W12 n_sd_cr
      have paF12 := paF10.other W12 n_pa_cr
      have pbF12 := pbF10.other W12 n_pb_cr
      have Kp12 := Kp10.wr W12 (Or.inl (by simp))
      refine o_ret0 X12 f7_65 (by decide) (by decide) ?_
      exact ⟨rfl, Kp12, by simpa only [q20, q38, ↓reduceIte, if_true, if_false] using wnF12, crF12⟩
  · refine o_aload_n X2 f7_23 rfl rfl ?_
    refine o_getO X2 0 f7_24 (hw _ (List.mem_of_getElem? (i := 28) rfl)) fF rfl rfl ?_
    intro T13 X13
    refine o_iconst 0 X13 f7_27 rfl ?_
    refine o_dup2 X13 f7_28 rfl rfl ?_
    refine o_iaload X13 f7_29 wnF (by decide) rfl ?_
    refine o_iconst 1 X13 f7_30 rfl ?_
    refine o_iadd X13 f7_31 ?_
    refine o_iastore X13 f7_32 wnF (by decide) (Nat.le_of_ble_eq_true rfl) ha_wn (vs' := [_, _]) rfl ?_
    intro T14 h14 X14 W14 wnF14
    have fF14 := fF.other W14 n_f_wn
    have waF14 := waF.other W14 n_wa_wn
    have diF14 := diF.other W14 n_di_wn
    have crF14 := crF.other W14 n_cr_wn
    have sdF14 := sdF.other W14 n_sd_wn
    have paF14 := paF.other W14 n_pa_wn
    have pbF14 := pbF.other W14 n_pb_wn
    have Kp14 := Kp.wr W14 (Or.inl (by simp))
    refine o_goto X14 f7_33 ?_
    refine o_aload_n X14 f7_51 rfl rfl ?_
    refine o_getO X14 1 f7_52 (hw _ (List.mem_of_getElem? (i := 30) rfl)) fF14 rfl rfl ?_
    intro T15 X15
    refine o_iconst 0 X15 f7_55 rfl ?_
    refine o_iconst 0 X15 f7_56 rfl ?_
    refine o_iastore X15 f7_57 crF14 (by decide) (Nat.le_of_ble_eq_true rfl) ha_cr (vs' := [_, _]) rfl ?_
    intro T16 h16 X16 W16 crF16
    have fF16 := fF14.other W16 n_f_cr
    have waF16 := waF14.other W16 n_wa_cr
    have diF16 := diF14.other W16 n_di_cr
    have wnF16 := wnF14.other W16 n_wn_cr
    have sdF16 := sdF14.other W16 n_sd_cr
    have paF16 := paF14.other W16 n_pa_cr
    have pbF16 := pbF14.other W16 n_pb_cr
    have Kp16 := Kp14.wr W16 (Or.inl (by simp))
    refine o_aload_n X16 f7_58 rfl rfl ?_
    refine o_getO X16 1 f7_59 (hw _ (List.mem_of_getElem? (i := 30) rfl)) fF16 rfl rfl ?_
    intro T17 X17
    refine o_iconst 1 X17 f7_62 rfl ?_
    refine o_iconst 0 X17 f7_63 rfl ?_
    refine o_iastore X17 f7_64 crF16 (by decide) (Nat.le_of_ble_eq_true rfl) ha_cr (vs' := [_, _]) rfl ?_
    intro T18 h18 X18 W18 crF18
    have fF18 := fF16.other W18 n_f_cr
    have waF18 := waF16.other W18 n_wa_cr
    have diF18 := diF16.other W18 n_di_cr
    have wnF18 := wnF16.other W18 n_wn_cr
    have sdF18 := sdF16.other W18 n_sd_cr
    have paF18 := paF16.other W18 n_pa_cr
    have pbF18 := pbF16.other W18 n_pb_cr
    have Kp18 := Kp16.wr W18 (Or.inl (by simp))
    refine o_ret0 X18 f7_65 (by decide) (by decide) ?_
    exact ⟨rfl, Kp18, by simpa only [q20, ↓reduceIte, if_true, if_false] using wnF18, crF18⟩
set_option maxRecDepth 65536 in
set_option maxHeartbeats 40000000 in
theorem rm5 (l : Launch) (Z : State) (a0 : Array Value) (hw : ∀ d ∈ tables_1, d.before a0 Z = true) (f : Addr) (wa : Addr) (di : Addr) (x0 : Int64) (x1 : Int32) (h : Heap) (n0 : Nat) (wn cr sd pa pb : Addr) (p q x y : Int32) (N : own_N n0 f wa di wn cr sd pa pb) (I : own_I Z h f wa di wn cr sd pa pb p q x y) :
    Ctr l Z (⟨"com/example/underboss/underboss/ViceFightWinnerPinLaw", "step", "(Lcom/example/underboss/underboss/ViceFight;[I[IJZ)V"⟩ : MethodName) method_2_code 8 (none) ({ frames := 3, cells := 0, slots := 0, locals := 54 } : Room) [.ref f, .ref wa, .ref di, .long x0, .int x1] h n0 (fun v h' => v = none ∧ ∃ p q x y, own_I Z h' f wa di wn cr sd pa pb p q x y) := by
  refine CtrW.intro (plainFor_of_name pn2) rfl #[.val (.ref f), .val (.ref wa), .val (.ref di), .val (.long x0), .second, .val (.int x1), .unset, .unset] rfl ?_
  intro K T hnm hl X
  subst hl
  have N0 := N
  obtain ⟨ha_wa, ha_di, ha_wn, ha_cr, n_f_wa, n_f_di, n_f_wn, n_f_cr, n_wa_di, n_wa_wn, n_wa_cr, n_wa_sd, n_wa_pa, n_wa_pb, n_di_wn, n_di_cr, n_di_sd, n_di_pa, n_di_pb, n_wn_cr, n_wn_sd, n_wn_pa, n_wn_pb, n_cr_sd, n_cr_pa, n_cr_pb⟩ := N0
  have n_wa_f := n_f_wa.symm
  have n_di_f := n_f_di.symm
  have n_wn_f := n_f_wn.symm
  have n_cr_f := n_f_cr.symm
  have n_di_wa := n_wa_di.symm
  have n_wn_wa := n_wa_wn.symm
  have n_cr_wa := n_wa_cr.symm
  have n_sd_wa := n_wa_sd.symm
  have n_pa_wa := n_wa_pa.symm
  have n_pb_wa := n_wa_pb.symm
  have n_wn_di := n_di_wn.symm
  have n_cr_di := n_di_cr.symm
  have n_sd_di := n_di_sd.symm
  have n_pa_di := n_di_pa.symm
  have n_pb_di := n_di_pb.symm
  have n_cr_wn := n_wn_cr.symm
  have n_sd_wn := n_wn_sd.symm
  have n_pa_wn := n_wn_pa.symm
  have n_pb_wn := n_wn_pb.symm
  have n_sd_cr := n_cr_sd.symm
  have n_pa_cr := n_cr_pa.symm
  have n_pb_cr := n_cr_pb.symm
  obtain ⟨fF, waF, diF, wnF, crF, sdF, paF, pbF⟩ := I
  refine o_iload X f5_0 rfl ?_
  refine o_if_eq X f5_2 (fun q2 => ?_) (fun q2 => ?_)
  · refine o_ret0 X f5_19 (by decide) (by decide) ?_
    exact ⟨rfl, _, _, _, _, fF, waF, diF, wnF, crF, sdF, paF, pbF⟩
  · refine o_aload_n X f5_5 rfl rfl ?_
    refine o_iconst 0 X f5_6 rfl ?_
    refine o_iaload X f5_7 waF (by decide) rfl ?_
    refine o_iconst 3 X f5_8 rfl ?_
    refine o_icmp_eq X f5_9 (fun q9 => ?_) (fun q9 => ?_)
    · refine o_ret0 X f5_19 (by decide) (by decide) ?_
      exact ⟨rfl, _, _, _, _, fF, waF, diF, wnF, crF, sdF, paF, pbF⟩
    · refine o_aload_n X f5_12 rfl rfl ?_
      refine o_iconst 1 X f5_13 rfl ?_
      refine o_iaload X f5_14 waF (by decide) rfl ?_
      refine o_iconst 3 X f5_15 rfl ?_
      refine o_icmp_ne X f5_16 (fun q16 => ?_) (fun q16 => ?_)
      · refine o_lload_n X f5_20 rfl ?_
        refine o_l2i X f5_21 ?_
        refine o_gen fun xa _ => ?_
        refine o_istore X f5_22 (Ls' := #[_, _, _, _, _, _, _, _]) rfl ?_
        refine o_lload_n X f5_24 rfl ?_
        refine o_bipush 32 X f5_25 rfl ?_
        refine o_lushr X f5_27 ?_
        refine o_l2i X f5_28 ?_
        refine o_gen fun xb _ => ?_
        refine o_istore X f5_29 (Ls' := #[_, _, _, _, _, _, _, _]) rfl ?_
        refine o_aload_n X f5_31 rfl rfl ?_
        refine o_iconst 0 X f5_32 rfl ?_
        refine o_iload X f5_33 rfl ?_
        refine o_iastore X f5_35 diF (by decide) (Nat.le_of_ble_eq_true rfl) ha_di (vs' := [_, _]) rfl ?_
        intro T1 h1 X1 W1 diF1
        have fF1 := fF.other W1 n_f_di
        have waF1 := waF.other W1 n_wa_di
        have wnF1 := wnF.other W1 n_wn_di
        have crF1 := crF.other W1 n_cr_di
        have sdF1 := sdF.other W1 n_sd_di
        have paF1 := paF.other W1 n_pa_di
        have pbF1 := pbF.other W1 n_pb_di
        refine o_aload_n X1 f5_36 rfl rfl ?_
        refine o_iconst 1 X1 f5_37 rfl ?_
        refine o_iload X1 f5_38 rfl ?_
        refine o_iastore X1 f5_40 diF1 (by decide) (Nat.le_of_ble_eq_true rfl) ha_di (vs' := [_, _]) rfl ?_
        intro T2 h2 X2 W2 diF2
        have fF2 := fF1.other W2 n_f_di
        have waF2 := waF1.other W2 n_wa_di
        have wnF2 := wnF1.other W2 n_wn_di
        have crF2 := crF1.other W2 n_cr_di
        have sdF2 := sdF1.other W2 n_sd_di
        have paF2 := paF1.other W2 n_pa_di
        have pbF2 := pbF1.other W2 n_pb_di
        refine o_aload_n X2 f5_41 rfl rfl ?_
        refine o_aload_n X2 f5_42 rfl rfl ?_
        refine o_callV X2 4 f5_43 (hw _ (List.mem_of_getElem? (i := 48) rfl)) (hw _ (List.mem_of_getElem? (i := 49) rfl)) (hw _ (List.mem_of_getElem? (i := 51) rfl)) (hw _ (List.mem_of_getElem? (i := 51) rfl)) (hw _ (List.mem_of_getElem? (i := 50) rfl)) (by decide) (hw _ (List.mem_of_getElem? (i := 52) rfl)) (hw _ (List.mem_of_getElem? (i := 22) rfl)) (rm7 K.l Z a0 hw f di _ n0 wa wn cr sd pa pb p q _ _ N ⟨fF2, waF2, diF2, wnF2, crF2, sdF2, paF2, pbF2⟩) fF2.1 (lenOf pd3 rfl) rfl rfl (by first | exact Nat.zero_le _ | simp [Value.category]) (by decide) ?_
        rintro T3 h3 v3 ⟨rfl, Kp3, wnF3, crF3⟩ X3
        refine o_v0 ?_
        have fF3 := fF2.keep Kp3 (ninS n_f_wn (ninS n_f_cr nin0))
        have waF3 := waF2.keep Kp3 (ninS n_wa_wn (ninS n_wa_cr nin0))
        have diF3 := diF2.keep Kp3 (ninS n_di_wn (ninS n_di_cr nin0))
        have sdF3 := sdF2.keep Kp3 (ninS n_sd_wn (ninS n_sd_cr nin0))
        have paF3 := paF2.keep Kp3 (ninS n_pa_wn (ninS n_pa_cr nin0))
        have pbF3 := pbF2.keep Kp3 (ninS n_pb_wn (ninS n_pb_cr nin0))
        refine o_iload X3 f5_46 rfl ?_
        refine o_iload X3 f5_48 rfl ?_
        refine o_icmp_le X3 f5_50 (fun q50 => ?_) (fun q50 => ?_)
        · refine o_iload X3 f5_64 rfl ?_
          refine o_iload X3 f5_66 rfl ?_
          refine o_icmp_le X3 f5_68 (fun q68 => ?_) (fun q68 => ?_)
          · refine o_ret0 X3 f5_79 (by decide) (by decide) ?_
            have hW := wnF3
            simp only [q50, q68, ↓reduceIte, if_true, if_false] at hW
            exact ⟨rfl, _, _, _, _, fF3, waF3, diF3, hW, crF3, sdF3, paF3, pbF3⟩
          · refine o_aload_n X3 f5_71 rfl rfl ?_
            refine o_iconst 1 X3 f5_72 rfl ?_
            refine o_aload_n X3 f5_73 rfl rfl ?_
            refine o_iconst 1 X3 f5_74 rfl ?_
            refine o_iaload X3 f5_75 waF3 (by decide) rfl ?_
            refine o_iconst 1 X3 f5_76 rfl ?_
            refine o_iadd X3 f5_77 ?_
            refine o_iastore X3 f5_78 waF3 (by decide) (Nat.le_of_ble_eq_true rfl) ha_wa (vs' := [_, _]) rfl ?_
            intro T4 h4 X4 W4 waF4
            have fF4 := fF3.other W4 n_f_wa
            have diF4 := diF3.other W4 n_di_wa
            have wnF4 := wnF3.other W4 n_wn_wa
            have crF4 := crF3.other W4 n_cr_wa
            have sdF4 := sdF3.other W4 n_sd_wa
            have paF4 := paF3.other W4 n_pa_wa
            have pbF4 := pbF3.other W4 n_pb_wa
            refine o_ret0 X4 f5_79 (by decide) (by decide) ?_
            have hW := wnF4
            simp only [q50, q68, ↓reduceIte, if_true, if_false] at hW
            exact ⟨rfl, _, _, _, _, fF4, waF4, diF4, hW, crF4, sdF4, paF4, pbF4⟩
        · refine o_aload_n X3 f5_53 rfl rfl ?_
          refine o_iconst 0 X3 f5_54 rfl ?_
          refine o_aload_n X3 f5_55 rfl rfl ?_
          refine o_iconst 0 X3 f5_56 rfl ?_
          refine o_iaload X3 f5_57 waF3 (by decide) rfl ?_
          refine o_iconst 1 X3 f5_58 rfl ?_
          refine o_iadd X3 f5_59 ?_
          refine o_iastore X3 f5_60 waF3 (by decide) (Nat.le_of_ble_eq_true rfl) ha_wa (vs' := [_, _]) rfl ?_
          intro T5 h5 X5 W5 waF5
          have fF5 := fF3.other W5 n_f_wa
          have diF5 := diF3.other W5 n_di_wa
          have wnF5 := wnF3.other W5 n_wn_wa
          have crF5 := crF3.other W5 n_cr_wa
          have sdF5 := sdF3.other W5 n_sd_wa
          have paF5 := paF3.other W5 n_pa_wa
          have pbF5 := pbF3.other W5 n_pb_wa
          refine o_goto X5 f5_61 ?_
          refine o_ret0 X5 f5_79 (by decide) (by decide) ?_
          have hW := wnF5
          simp only [q50, ↓reduceIte, if_true, if_false] at hW
          exact ⟨rfl, _, _, _, _, fF5, waF5, diF5, hW, crF5, sdF5, paF5, pbF5⟩
      · refine o_ret0 X f5_19 (by decide) (by decide) ?_
        exact ⟨rfl, _, _, _, _, fF, waF, diF, wnF, crF, sdF, paF, pbF⟩
set_option maxRecDepth 65536 in
set_option maxHeartbeats 40000000 in
theorem rm6 (l : Launch) (Z : State) (a0 : Array Value) (hw : ∀ d ∈ tables_1, d.before a0 Z = true) (f : Addr) (h : Heap) (n0 : Nat) (wa di wn cr sd pa pb : Addr) (p q x y : Int32) (I : own_I Z h f wa di wn cr sd pa pb p q x y) :
    Ctr l Z (⟨"com/example/underboss/underboss/ViceFight", "winner", "()I"⟩ : MethodName) prog_7_method_12_code 2 (some (.int)) ({ frames := 0, cells := 0, slots := 0, locals := 0 } : Room) [.ref f] h n0 (fun v h' => v = some (.int (own_w p q)) ∧ h' = h) := by
  refine CtrW.intro (plainFor_of_name pn1) rfl #[.val (.ref f), .unset] rfl ?_
  intro K T hnm hl X
  subst hl
  obtain ⟨fF, waF, diF, wnF, crF, sdF, paF, pbF⟩ := I
  refine o_iconst 0 X f6_0 rfl ?_
  refine o_istore_n X f6_1 (Ls' := #[_, _]) rfl ?_
  refine o_iload_n X f6_2 rfl ?_
  refine o_iconst 2 X f6_3 rfl ?_
  refine o_icmp_ge_f X f6_4 (by decide) ?_
  refine o_aload_n X f6_7 rfl rfl ?_
  refine o_getO X 0 f6_8 (hw _ (List.mem_of_getElem? (i := 28) rfl)) fF rfl rfl ?_
  intro T1 X1
  refine o_iload_n X1 f6_11 rfl ?_
  refine o_iaload X1 f6_12 wnF (by decide) rfl ?_
  refine o_iconst 3 X1 f6_13 rfl ?_
  refine o_icmp_ne X1 f6_14 (fun q14 => ?_) (fun q14 => ?_)
  · refine o_iinc 1 X1 f6_19 rfl rfl (Ls' := #[_, _]) rfl ?_
    refine o_goto X1 f6_22 ?_
    refine o_iload_n X1 f6_2 rfl ?_
    refine o_iconst 2 X1 f6_3 rfl ?_
    refine o_icmp_ge_f X1 f6_4 (by decide) ?_
    refine o_aload_n X1 f6_7 rfl rfl ?_
    refine o_getO X1 0 f6_8 (hw _ (List.mem_of_getElem? (i := 28) rfl)) fF rfl rfl ?_
    intro T2 X2
    refine o_iload_n X2 f6_11 rfl ?_
    refine o_iaload X2 f6_12 wnF (by decide) rfl ?_
    refine o_iconst 3 X2 f6_13 rfl ?_
    refine o_icmp_ne X2 f6_14 (fun q14x => ?_) (fun q14x => ?_)
    · refine o_iinc 1 X2 f6_19 rfl rfl (Ls' := #[_, _]) rfl ?_
      refine o_goto X2 f6_22 ?_
      refine o_iload_n X2 f6_2 rfl ?_
      refine o_iconst 2 X2 f6_3 rfl ?_
      refine o_icmp_ge_t X2 f6_4 (by decide) ?_
      refine o_iconst (-1) X2 f6_25 rfl ?_
      refine o_retI X2 f6_26 (by decide) (by decide) ?_
      exact ⟨by simp only [own_w, q14, q14x, ↓reduceIte, if_true, if_false] <;> rfl, rfl⟩
    · refine o_iload_n X2 f6_17 rfl ?_
      refine o_retI X2 f6_18 (by decide) (by decide) ?_
      exact ⟨by simp only [own_w, q14, q14x, ↓reduceIte, if_true, if_false] <;> rfl, rfl⟩
  · refine o_iload_n X1 f6_17 rfl ?_
    refine o_retI X1 f6_18 (by decide) (by decide) ?_
    exact ⟨by simp only [own_w, q14, ↓reduceIte, if_true, if_false] <;> rfl, rfl⟩
set_option maxRecDepth 65536 in
set_option maxHeartbeats 40000000 in
theorem rm0 (l : Launch) (Z : State) (a0 : Array Value) (hw : ∀ d ∈ tables_1, d.before a0 Z = true) (x0 : Int32) (x1 : Int64) (x2 : Int64) (x3 : Int64) (x4 : Int64) (x5 : Int64) (h : Heap) (n0 : Nat) (hn0 : n0 ≤ h.size) :
    CtrW l Z x code 18 (some .boolean) tables_1 room_1 24 128 [.int x0, .long x1, .long x2, .long x3, .long x4, .long x5] h n0 (fun v _ => v = some (.int 1)) := by
  refine CtrW.intro (plainFor_of_name pn2) rfl #[.val (.int x0), .val (.long x1), .second, .val (.long x2), .second, .val (.long x3), .second, .val (.long x4), .second, .val (.long x5), .second, .unset, .unset, .unset, .unset, .unset, .unset, .unset] rfl ?_
  intro K T hnm hl X
  subst hl
  refine o_new X f0_0 (hw _ (List.mem_of_getElem? (i := 0) rfl)) (hw _ (List.mem_of_getElem? (i := 1) rfl)) (hw _ (List.mem_of_getElem? (i := 2) rfl)) (by decide) ?_
  intro T1 h1 pa e1 X1 E1 A1 D1
  have paF1 := Obj.new (ns := own_nsS) (vs := [.int 0, .int 0, .int 0]) A1 D1 (own_ldS Z a0 hw) [.int, .int, .boolean] (by decide) rfl
  have ha_pa : n0 ≤ pa := e1 ▸ hn0
  have z1 := Nat.le_trans hn0 E1.1
  refine o_dup X1 f0_3 rfl ?_
  refine o_iconst 1 X1 f0_4 rfl ?_
  refine o_iconst 0 X1 f0_5 rfl ?_
  refine o_iconst 0 X1 f0_6 rfl ?_
  refine o_callN X1 6 f0_7 rfl (hw _ (List.mem_of_getElem? (i := 3) rfl)) (hw _ (List.mem_of_getElem? (i := 4) rfl)) (hw _ (List.mem_of_getElem? (i := 5) rfl)) (hw _ (List.mem_of_getElem? (i := 2) rfl)) (by decide) (rm1 K.l Z a0 hw pa _ _ _ _ n0 ha_pa (Or.inl rfl) paF1) (lenOf pd4 rfl) rfl rfl (by first | exact Nat.zero_le _ | simp [Value.category]) (by decide) ?_
  rintro T2 h2 v2 ⟨rfl, Kp2, paF2⟩ X2
  refine o_v0 ?_
  have z2 := Nat.le_trans z1 Kp2.1
  refine o_astore X2 f0_10 rfl (Ls' := #[_, _, _, _, _, _, _, _, _, _, _, _, _, _, _, _, _, _]) rfl ?_
  refine o_new X2 f0_12 (hw _ (List.mem_of_getElem? (i := 0) rfl)) (hw _ (List.mem_of_getElem? (i := 1) rfl)) (hw _ (List.mem_of_getElem? (i := 2) rfl)) (by decide) ?_
  intro T3 h3 pb e3 X3 E3 A3 D3
  have pbF3 := Obj.new (ns := own_nsS) (vs := [.int 0, .int 0, .int 0]) A3 D3 (own_ldS Z a0 hw) [.int, .int, .boolean] (by decide) rfl
  have n_pa_pb : pa ≠ pb := Nat.ne_of_lt (e3 ▸ paF2.lt)
  have n_pb_pa := n_pa_pb.symm
  have ha_pb : n0 ≤ pb := e3 ▸ z2
  have paF3 := paF2.ext E3
  have z3 := Nat.le_trans z2 E3.1
  refine o_dup X3 f0_15 rfl ?_
  refine o_iconst 2 X3 f0_16 rfl ?_
  refine o_iconst 1 X3 f0_17 rfl ?_
  refine o_iconst 0 X3 f0_18 rfl ?_
  refine o_callN X3 6 f0_19 rfl (hw _ (List.mem_of_getElem? (i := 3) rfl)) (hw _ (List.mem_of_getElem? (i := 4) rfl)) (hw _ (List.mem_of_getElem? (i := 5) rfl)) (hw _ (List.mem_of_getElem? (i := 2) rfl)) (by decide) (rm1 K.l Z a0 hw pb _ _ _ _ n0 ha_pb (Or.inl rfl) pbF3) (lenOf pd4 rfl) rfl rfl (by first | exact Nat.zero_le _ | simp [Value.category]) (by decide) ?_
  rintro T4 h4 v4 ⟨rfl, Kp4, pbF4⟩ X4
  refine o_v0 ?_
  have paF4 := paF3.keep Kp4 (ninS n_pa_pb nin0)
  have z4 := Nat.le_trans z3 Kp4.1
  refine o_astore X4 f0_22 rfl (Ls' := #[_, _, _, _, _, _, _, _, _, _, _, _, _, _, _, _, _, _]) rfl ?_
  refine o_new X4 f0_24 (hw _ (List.mem_of_getElem? (i := 20) rfl)) (hw _ (List.mem_of_getElem? (i := 21) rfl)) (hw _ (List.mem_of_getElem? (i := 22) rfl)) (by decide) ?_
  intro T5 h5 f e5 X5 E5 A5 D5
  have fF5 := Obj.new (ns := own_nsV) (vs := [.null, .null, .null, .int 0]) A5 D5 (own_ldV Z a0 hw) [(.array .int), (.array .int), (.array (.object "com/example/underboss/underboss/ViceFight$Side")), .int] (by decide) rfl
  have n_pa_f : pa ≠ f := Nat.ne_of_lt (e5 ▸ paF4.lt)
  have n_f_pa := n_pa_f.symm
  have n_pb_f : pb ≠ f := Nat.ne_of_lt (e5 ▸ pbF4.lt)
  have n_f_pb := n_pb_f.symm
  have ha_f : n0 ≤ f := e5 ▸ z4
  have paF5 := paF4.ext E5
  have pbF5 := pbF4.ext E5
  have z5 := Nat.le_trans z4 E5.1
  refine o_dup X5 f0_27 rfl ?_
  refine o_aload X5 f0_28 rfl rfl ?_
  refine o_aload X5 f0_30 rfl rfl ?_
  refine o_iconst 0 X5 f0_32 rfl ?_
  refine o_callN X5 6 f0_33 rfl (hw _ (List.mem_of_getElem? (i := 23) rfl)) (hw _ (List.mem_of_getElem? (i := 24) rfl)) (hw _ (List.mem_of_getElem? (i := 25) rfl)) (hw _ (List.mem_of_getElem? (i := 22) rfl)) (by decide) (rm4 K.l Z a0 hw f pa pb _ _ n0 z5 ha_f _ _ fF5 paF5 pbF5 n_pa_f n_pb_f) (lenOf pd5 rfl) rfl rfl (by first | exact Nat.zero_le _ | simp [Value.category]) (by decide) ?_
  rintro T6 h6 v6 ⟨rfl, Kp6, wn, cr, sd, fF6, wnF6, crF6, sdF6, g1, g2, g3, n_wn_cr, n_wn_sd, n_cr_sd⟩ X6
  refine o_v0 ?_
  have n_f_wn : f ≠ wn := Nat.ne_of_lt (Nat.lt_of_lt_of_le fF5.lt g1)
  have n_wn_f := n_f_wn.symm
  have n_f_cr : f ≠ cr := Nat.ne_of_lt (Nat.lt_of_lt_of_le fF5.lt g2)
  have n_cr_f := n_f_cr.symm
  have n_f_sd : f ≠ sd := Nat.ne_of_lt (Nat.lt_of_lt_of_le fF5.lt g3)
  have n_sd_f := n_f_sd.symm
  have n_pa_wn : pa ≠ wn := Nat.ne_of_lt (Nat.lt_of_lt_of_le paF5.lt g1)
  have n_wn_pa := n_pa_wn.symm
  have n_pa_cr : pa ≠ cr := Nat.ne_of_lt (Nat.lt_of_lt_of_le paF5.lt g2)
  have n_cr_pa := n_pa_cr.symm
  have n_pa_sd : pa ≠ sd := Nat.ne_of_lt (Nat.lt_of_lt_of_le paF5.lt g3)
  have n_sd_pa := n_pa_sd.symm
  have n_pb_wn : pb ≠ wn := Nat.ne_of_lt (Nat.lt_of_lt_of_le pbF5.lt g1)
  have n_wn_pb := n_pb_wn.symm
  have n_pb_cr : pb ≠ cr := Nat.ne_of_lt (Nat.lt_of_lt_of_le pbF5.lt g2)
  have n_cr_pb := n_pb_cr.symm
  have n_pb_sd : pb ≠ sd := Nat.ne_of_lt (Nat.lt_of_lt_of_le pbF5.lt g3)
  have n_sd_pb := n_pb_sd.symm
  have n_cr_wn := n_wn_cr.symm
  have n_sd_wn := n_wn_sd.symm
  have n_sd_cr := n_cr_sd.symm
  have ha_wn : n0 ≤ wn := Nat.le_trans z5 g1
  have ha_cr : n0 ≤ cr := Nat.le_trans z5 g2
  have paF6 := paF5.keep Kp6 (ninS n_pa_f nin0)
  have pbF6 := pbF5.keep Kp6 (ninS n_pb_f nin0)
  have z6 := Nat.le_trans z5 Kp6.1
  refine o_astore X6 f0_36 rfl (Ls' := #[_, _, _, _, _, _, _, _, _, _, _, _, _, _, _, _, _, _]) rfl ?_
  refine o_iload_n X6 f0_38 rfl ?_
  refine o_bipush 7 X6 f0_39 rfl ?_
  refine o_iand X6 f0_41 ?_
  refine o_bipush 6 X6 f0_42 rfl ?_
  refine o_irem X6 f0_44 (by decide) ?_
  refine o_istore X6 f0_45 (Ls' := #[_, _, _, _, _, _, _, _, _, _, _, _, _, _, _, _, _, _]) rfl ?_
  refine o_iconst 2 X6 f0_47 rfl ?_
  refine o_newarray X6 2 f0_48 (hw _ (List.mem_of_getElem? (i := 27) rfl)) (by decide) (by decide) (vs := [.int 0, .int 0]) rfl (by decide) ?_
  intro T7 h7 wa e7 X7 E7 waF7
  have n_pa_wa : pa ≠ wa := Nat.ne_of_lt (e7 ▸ paF6.lt)
  have n_wa_pa := n_pa_wa.symm
  have n_pb_wa : pb ≠ wa := Nat.ne_of_lt (e7 ▸ pbF6.lt)
  have n_wa_pb := n_pb_wa.symm
  have n_f_wa : f ≠ wa := Nat.ne_of_lt (e7 ▸ fF6.lt)
  have n_wa_f := n_f_wa.symm
  have n_wn_wa : wn ≠ wa := Nat.ne_of_lt (e7 ▸ wnF6.lt)
  have n_wa_wn := n_wn_wa.symm
  have n_cr_wa : cr ≠ wa := Nat.ne_of_lt (e7 ▸ crF6.lt)
  have n_wa_cr := n_cr_wa.symm
  have n_sd_wa : sd ≠ wa := Nat.ne_of_lt (e7 ▸ sdF6.lt)
  have n_wa_sd := n_sd_wa.symm
  have ha_wa : n0 ≤ wa := e7 ▸ z6
  have paF7 := paF6.ext E7
  have pbF7 := pbF6.ext E7
  have fF7 := fF6.ext E7
  have wnF7 := wnF6.ext E7
  have crF7 := crF6.ext E7
  have sdF7 := sdF6.ext E7
  have z7 := Nat.le_trans z6 E7.1
  refine o_astore X7 f0_50 rfl (Ls' := #[_, _, _, _, _, _, _, _, _, _, _, _, _, _, _, _, _, _]) rfl ?_
  refine o_iconst 2 X7 f0_52 rfl ?_
  refine o_newarray X7 2 f0_53 (hw _ (List.mem_of_getElem? (i := 27) rfl)) (by decide) (by decide) (vs := [.int 0, .int 0]) rfl (by decide) ?_
  intro T8 h8 di e8 X8 E8 diF8
  have n_pa_di : pa ≠ di := Nat.ne_of_lt (e8 ▸ paF7.lt)
  have n_di_pa := n_pa_di.symm
  have n_pb_di : pb ≠ di := Nat.ne_of_lt (e8 ▸ pbF7.lt)
  have n_di_pb := n_pb_di.symm
  have n_f_di : f ≠ di := Nat.ne_of_lt (e8 ▸ fF7.lt)
  have n_di_f := n_f_di.symm
  have n_wn_di : wn ≠ di := Nat.ne_of_lt (e8 ▸ wnF7.lt)
  have n_di_wn := n_wn_di.symm
  have n_cr_di : cr ≠ di := Nat.ne_of_lt (e8 ▸ crF7.lt)
  have n_di_cr := n_cr_di.symm
  have n_sd_di : sd ≠ di := Nat.ne_of_lt (e8 ▸ sdF7.lt)
  have n_di_sd := n_sd_di.symm
  have n_wa_di : wa ≠ di := Nat.ne_of_lt (e8 ▸ waF7.lt)
  have n_di_wa := n_wa_di.symm
  have ha_di : n0 ≤ di := e8 ▸ z7
  have paF8 := paF7.ext E8
  have pbF8 := pbF7.ext E8
  have fF8 := fF7.ext E8
  have wnF8 := wnF7.ext E8
  have crF8 := crF7.ext E8
  have sdF8 := sdF7.ext E8
  have waF8 := waF7.ext E8
  have z8 := Nat.le_trans z7 E8.1
  refine o_astore X8 f0_55 rfl (Ls' := #[_, _, _, _, _, _, _, _, _, _, _, _, _, _, _, _, _, _]) rfl ?_
  refine o_aload X8 f0_57 rfl rfl ?_
  refine o_aload X8 f0_59 rfl rfl ?_
  refine o_aload X8 f0_61 rfl rfl ?_
  refine o_lload_n X8 f0_63 rfl ?_
  refine o_iload X8 f0_64 rfl ?_
  refine o_bool_if_le X8 f0_66 f0_69 f0_70 f0_73 ?_
  have N : own_N n0 f wa di wn cr sd pa pb := ⟨ha_wa, ha_di, ha_wn, ha_cr, n_f_wa, n_f_di, n_f_wn, n_f_cr, n_wa_di, n_wa_wn, n_wa_cr, n_wa_sd, n_wa_pa, n_wa_pb, n_di_wn, n_di_cr, n_di_sd, n_di_pa, n_di_pb, n_wn_cr, n_wn_sd, n_wn_pa, n_wn_pb, n_cr_sd, n_cr_pa, n_cr_pb⟩
  have I : own_I Z _ f wa di wn cr sd pa pb 0 0 0 0 := ⟨fF8, waF8, diF8, wnF8, crF8, sdF8, paF8, pbF8⟩
  refine o_callS X8 6 f0_74 (hw _ (List.mem_of_getElem? (i := 39) rfl)) (hw _ (List.mem_of_getElem? (i := 40) rfl)) (hw _ (List.mem_of_getElem? (i := 41) rfl)) (hw _ (List.mem_of_getElem? (i := 42) rfl)) (by decide) (rm5 K.l Z a0 hw f wa di _ _ _ n0 wn cr sd pa pb _ _ _ _ N I) (lenOf pd6 rfl) rfl rfl (by first | exact Nat.zero_le _ | simp [Value.category]) (by decide) ?_
  rintro T9 h9 v9 ⟨rfl, p, q, x, y, I⟩ X9
  refine o_v0 ?_
  refine o_aload X9 f0_77 rfl rfl ?_
  refine o_aload X9 f0_79 rfl rfl ?_
  refine o_aload X9 f0_81 rfl rfl ?_
  refine o_lload_n X9 f0_83 rfl ?_
  refine o_iload X9 f0_84 rfl ?_
  refine o_iconst 1 X9 f0_86 rfl ?_
  refine o_bool_icmp_le X9 f0_87 f0_90 f0_91 f0_94 ?_
  refine o_callS X9 6 f0_95 (hw _ (List.mem_of_getElem? (i := 39) rfl)) (hw _ (List.mem_of_getElem? (i := 40) rfl)) (hw _ (List.mem_of_getElem? (i := 41) rfl)) (hw _ (List.mem_of_getElem? (i := 42) rfl)) (by decide) (rm5 K.l Z a0 hw f wa di _ _ _ n0 wn cr sd pa pb _ _ _ _ N I) (lenOf pd6 rfl) rfl rfl (by first | exact Nat.zero_le _ | simp [Value.category]) (by decide) ?_
  rintro T10 h10 v10 ⟨rfl, p, q, x, y, I⟩ X10
  refine o_v0 ?_
  refine o_aload X10 f0_98 rfl rfl ?_
  refine o_aload X10 f0_100 rfl rfl ?_
  refine o_aload X10 f0_102 rfl rfl ?_
  refine o_lload X10 f0_104 rfl ?_
  refine o_iload X10 f0_106 rfl ?_
  refine o_iconst 2 X10 f0_108 rfl ?_
  refine o_bool_icmp_le X10 f0_109 f0_112 f0_113 f0_116 ?_
  refine o_callS X10 6 f0_117 (hw _ (List.mem_of_getElem? (i := 39) rfl)) (hw _ (List.mem_of_getElem? (i := 40) rfl)) (hw _ (List.mem_of_getElem? (i := 41) rfl)) (hw _ (List.mem_of_getElem? (i := 42) rfl)) (by decide) (rm5 K.l Z a0 hw f wa di _ _ _ n0 wn cr sd pa pb _ _ _ _ N I) (lenOf pd6 rfl) rfl rfl (by first | exact Nat.zero_le _ | simp [Value.category]) (by decide) ?_
  rintro T11 h11 v11 ⟨rfl, p, q, x, y, I⟩ X11
  refine o_v0 ?_
  refine o_aload X11 f0_120 rfl rfl ?_
  refine o_aload X11 f0_122 rfl rfl ?_
  refine o_aload X11 f0_124 rfl rfl ?_
  refine o_lload X11 f0_126 rfl ?_
  refine o_iload X11 f0_128 rfl ?_
  refine o_iconst 3 X11 f0_130 rfl ?_
  refine o_bool_icmp_le X11 f0_131 f0_134 f0_135 f0_138 ?_
  refine o_callS X11 6 f0_139 (hw _ (List.mem_of_getElem? (i := 39) rfl)) (hw _ (List.mem_of_getElem? (i := 40) rfl)) (hw _ (List.mem_of_getElem? (i := 41) rfl)) (hw _ (List.mem_of_getElem? (i := 42) rfl)) (by decide) (rm5 K.l Z a0 hw f wa di _ _ _ n0 wn cr sd pa pb _ _ _ _ N I) (lenOf pd6 rfl) rfl rfl (by first | exact Nat.zero_le _ | simp [Value.category]) (by decide) ?_
  rintro T12 h12 v12 ⟨rfl, p, q, x, y, I⟩ X12
  refine o_v0 ?_
  refine o_aload X12 f0_142 rfl rfl ?_
  refine o_aload X12 f0_144 rfl rfl ?_
  refine o_aload X12 f0_146 rfl rfl ?_
  refine o_lload X12 f0_148 rfl ?_
  refine o_iload X12 f0_150 rfl ?_
  refine o_iconst 4 X12 f0_152 rfl ?_
  refine o_bool_icmp_le X12 f0_153 f0_156 f0_157 f0_160 ?_
  refine o_callS X12 6 f0_161 (hw _ (List.mem_of_getElem? (i := 39) rfl)) (hw _ (List.mem_of_getElem? (i := 40) rfl)) (hw _ (List.mem_of_getElem? (i := 41) rfl)) (hw _ (List.mem_of_getElem? (i := 42) rfl)) (by decide) (rm5 K.l Z a0 hw f wa di _ _ _ n0 wn cr sd pa pb _ _ _ _ N I) (lenOf pd6 rfl) rfl rfl (by first | exact Nat.zero_le _ | simp [Value.category]) (by decide) ?_
  rintro T13 h13 v13 ⟨rfl, p, q, x, y, I⟩ X13
  refine o_v0 ?_
  refine o_iconst (-1) X13 f0_164 rfl ?_
  refine o_istore X13 f0_165 (Ls' := #[_, _, _, _, _, _, _, _, _, _, _, _, _, _, _, _, _, _]) rfl ?_
  refine o_aload X13 f0_167 rfl rfl ?_
  refine o_iconst 0 X13 f0_169 rfl ?_
  refine o_iaload X13 f0_170 I.2.1 (by decide) rfl ?_
  refine o_iconst 3 X13 f0_171 rfl ?_
  refine o_icmp_ne X13 f0_172 (fun q172 => ?_) (fun q172 => ?_)
  · refine o_aload X13 f0_181 rfl rfl ?_
    refine o_iconst 1 X13 f0_183 rfl ?_
    refine o_iaload X13 f0_184 I.2.1 (by decide) rfl ?_
    refine o_iconst 3 X13 f0_185 rfl ?_
    refine o_icmp_ne X13 f0_186 (fun q186 => ?_) (fun q186 => ?_)
    · refine o_aload X13 f0_192 rfl rfl ?_
      refine o_callV X13 6 f0_194 (hw _ (List.mem_of_getElem? (i := 43) rfl)) (hw _ (List.mem_of_getElem? (i := 44) rfl)) (hw _ (List.mem_of_getElem? (i := 46) rfl)) (hw _ (List.mem_of_getElem? (i := 46) rfl)) (hw _ (List.mem_of_getElem? (i := 45) rfl)) (by decide) (hw _ (List.mem_of_getElem? (i := 47) rfl)) (hw _ (List.mem_of_getElem? (i := 22) rfl)) (rm6 K.l Z a0 hw f _ n0 wa di wn cr sd pa pb _ _ _ _ I) I.1.1 (lenOf pd7 rfl) rfl rfl (by first | exact Nat.zero_le _ | simp [Value.category]) (by decide) ?_
      rintro T14 h14 v14 ⟨rfl, rfl⟩ X14
      refine o_v1 ?_
      refine o_iload X14 f0_197 rfl ?_
      refine o_icmp_ne_f X14 f0_199 (by simp only [own_w, q172, q186, ↓reduceIte, if_true, if_false] <;> rfl) ?_
      refine o_iconst 1 X14 f0_202 rfl ?_
      refine o_goto X14 f0_203 ?_
      refine o_retZ X14 f0_207 (by decide) (by decide) ?_
      rfl
    · refine o_iconst 1 X13 f0_189 rfl ?_
      refine o_istore X13 f0_190 (Ls' := #[_, _, _, _, _, _, _, _, _, _, _, _, _, _, _, _, _, _]) rfl ?_
      refine o_aload X13 f0_192 rfl rfl ?_
      refine o_callV X13 6 f0_194 (hw _ (List.mem_of_getElem? (i := 43) rfl)) (hw _ (List.mem_of_getElem? (i := 44) rfl)) (hw _ (List.mem_of_getElem? (i := 46) rfl)) (hw _ (List.mem_of_getElem? (i := 46) rfl)) (hw _ (List.mem_of_getElem? (i := 45) rfl)) (by decide) (hw _ (List.mem_of_getElem? (i := 47) rfl)) (hw _ (List.mem_of_getElem? (i := 22) rfl)) (rm6 K.l Z a0 hw f _ n0 wa di wn cr sd pa pb _ _ _ _ I) I.1.1 (lenOf pd7 rfl) rfl rfl (by first | exact Nat.zero_le _ | simp [Value.category]) (by decide) ?_
      rintro T15 h15 v15 ⟨rfl, rfl⟩ X15
      refine o_v1 ?_
      refine o_iload X15 f0_197 rfl ?_
      refine o_icmp_ne_f X15 f0_199 (by simp only [own_w, q172, q186, ↓reduceIte, if_true, if_false] <;> rfl) ?_
      refine o_iconst 1 X15 f0_202 rfl ?_
      refine o_goto X15 f0_203 ?_
      refine o_retZ X15 f0_207 (by decide) (by decide) ?_
      rfl
  · refine o_iconst 0 X13 f0_175 rfl ?_
    refine o_istore X13 f0_176 (Ls' := #[_, _, _, _, _, _, _, _, _, _, _, _, _, _, _, _, _, _]) rfl ?_
    refine o_goto X13 f0_178 ?_
    refine o_aload X13 f0_192 rfl rfl ?_
    refine o_callV X13 6 f0_194 (hw _ (List.mem_of_getElem? (i := 43) rfl)) (hw _ (List.mem_of_getElem? (i := 44) rfl)) (hw _ (List.mem_of_getElem? (i := 46) rfl)) (hw _ (List.mem_of_getElem? (i := 46) rfl)) (hw _ (List.mem_of_getElem? (i := 45) rfl)) (by decide) (hw _ (List.mem_of_getElem? (i := 47) rfl)) (hw _ (List.mem_of_getElem? (i := 22) rfl)) (rm6 K.l Z a0 hw f _ n0 wa di wn cr sd pa pb _ _ _ _ I) I.1.1 (lenOf pd7 rfl) rfl rfl (by first | exact Nat.zero_le _ | simp [Value.category]) (by decide) ?_
    rintro T16 h16 v16 ⟨rfl, rfl⟩ X16
    refine o_v1 ?_
    refine o_iload X16 f0_197 rfl ?_
    refine o_icmp_ne_f X16 f0_199 (by simp only [own_w, q172, ↓reduceIte, if_true, if_false] <;> rfl) ?_
    refine o_iconst 1 X16 f0_202 rfl ?_
    refine o_goto X16 f0_203 ?_
    refine o_retZ X16 f0_207 (by decide) (by decide) ?_
    rfl
set_option maxRecDepth 65536 in
set_option maxHeartbeats 40000000 in
theorem comes_1 {Post : Tables → Env → Array Value → State → Outcome → State → Prop} (hpost : ∀ tb e args s v u, (limb_1_1.after args s (.returned v) u = true ∧ limb_1_2.after args s (.returned v) u = true ∧ True) → FrameEnd s (.returned v) u (Jvm.fieldLocs frame_1_writes args s ++ Jvm.arrayLocs frame_1_arrays args s ++ Jvm.staticLocs frame_1_statics s) 24 128 → Post tb e args s (.returned v) u) :
    ArmFor flags0 classFile x code maxLocals ret World_1 tables_1 room_1 Calls_1 rest_1 Pre_1 Post := by
  intro l hfl _ _ p e ha hc hk s m args below hf hA hF happ hP
  obtain ⟨hcalls, hrest, hpre⟩ := hP
  obtain ⟨-, -, -, hnamed, -, -, -, hat⟩ := (Spec.applies_iff hf).mp happ
  obtain ⟨hg, hn⟩ := and_e (Cond.before_iff.mp (show (Jvm.Cond.and given_1 narrow_1).before args s = true from hpre))
  obtain ⟨g0, r0⟩ := and_e hg
  obtain ⟨p0, r1⟩ := and_e r0
  obtain ⟨p1, r2⟩ := and_e r1
  obtain ⟨p2, r3⟩ := and_e r2
  obtain ⟨p3, r4⟩ := and_e r3
  obtain ⟨p4, r5⟩ := and_e r4
  obtain ⟨w0, w1, w2, w3, w4, w5, rfl⟩ : ∃ w0 w1 w2 w3 w4 w5 : Value, args = #[w0, w1, w2, w3, w4, w5] := by
    have hs : args.size = 6 := by simpa [Cond.value, given_1] using g0
    obtain ⟨L⟩ := args
    match L, hs with
    | [w0, w1, w2, w3, w4, w5], _ => exact ⟨w0, w1, w2, w3, w4, w5, rfl⟩
  have hw := fun d (hd : d ∈ tables_1) => atoms_spec (ws := Jvm.Cond.code x code maxLocals ret :: tables_1) hat d (List.mem_cons_of_mem _ hd)
  obtain ⟨i0, e0⟩ := is_v p0
  obtain rfl : w0 = (.int i0) := Option.some.inj e0
  obtain ⟨i1, e1⟩ := isL_v p1
  obtain rfl : w1 = (.long i1) := Option.some.inj e1
  obtain ⟨i2, e2⟩ := isL_v p2
  obtain rfl : w2 = (.long i2) := Option.some.inj e2
  obtain ⟨i3, e3⟩ := isL_v p3
  obtain rfl : w3 = (.long i3) := Option.some.inj e3
  obtain ⟨i4, e4⟩ := isL_v p4
  obtain rfl : w4 = (.long i4) := Option.some.inj e4
  obtain ⟨i5, e5⟩ := isL_v r5
  obtain rfl : w5 = (.long i5) := Option.some.inj e5
  obtain ⟨n, o, h1, h2, h3, _, L, rfl, ⟨rfl, N⟩, hq⟩ := rm0 l s _ hw i0 i1 i2 i3 i4 i5 s.heap s.heap.size (Nat.le_refl _) p e ha hc hk s m _ below hf ((Spec.applies_iff_loose hf).mp happ).1 ⟨rfl, State.Warmed39.refl s, rfl⟩ trivial
  refine ⟨n, _, h1, h2, h3, hpost _ _ _ _ _ _ ⟨Cond.after_iff.mpr rfl, Cond.after_iff.mpr (eq_i res_at (Term.int_eval (1)) rfl), trivial⟩ ⟨hq.1, hq.2.1, (hq.2.2.sift fun y hy => Or.inr (N y hy)).mono (by decide) (by decide)⟩⟩
theorem main_1_1 : Claimed_1_1 := comes_1 fun _ _ _ _ _ _ h hF => ⟨h.1, hF⟩
theorem main_1_2 : Claimed_1_2 := comes_1 fun _ _ _ _ _ _ h hF => ⟨h.2.1, hF⟩
end Jvm.Pilot.@@N@@
namespace Jvm.Pilot.@@N@@
open Jvm Jvm.ClassFile Sem Op Lib Jvm.Free Jvm.Stand Jvm.Pilot.@@N@@.Jvm.D
/-! MADE BY PROGRAM (witnessworld.py) out of the Statement's table words and the real class files: 12 classes; the members and pool entries that the words name. The judged class is class 1, her method 2. -/
namespace start1
open Jvm.ClassFile
def u (s : String) : CpInfo := .utf8 (stringToUtf16 s)
/-- a pool by its gaps: so many unusable entries, then the entry; so many at the end -/
def gap : Nat → List CpInfo → List CpInfo
  | 0, r => r
  | n + 1, r => .unusable :: gap n r
def poolList (es : List (Nat × CpInfo)) (last : Nat) : List CpInfo := es.foldr (fun e r => gap e.1 (e.2 :: r)) (gap last [])
def pool (es : List (Nat × CpInfo)) (last : Nat) : Array CpInfo := ⟨poolList es last⟩
def fileOf (pool : Array CpInfo) (this : Nat) (attrs : Array Attribute := #[]) (ms : Array MethodInfo := #[]) (fl : Nat := 33) (sup : Nat := 0) (ifs : Array Nat := #[]) (fds : Array FieldInfo := #[]) : ClassFile where
  minorVersion := 0
  majorVersion := 65
  constantPool := pool
  accessFlags := fl
  thisClass := this
  superClass := sup
  interfaces := ifs
  fields := fds
  methods := ms
  attributes := attrs
def plain (name : String) (sup : Option ClassId) : Class where
  name := name
  kind := .ordinary
  loader := none
  accessFlags := 33
  super := sup
  interfaces := #[]
  cf := none
  fields := #[]
  methods := #[]
  instanceTypes := #[]
  staticTypes := #[]
  resolved := #[]
  callSites := []
  init := .initialized
  statics := none
  mirror := none

def pool0 : Array CpInfo := pool [(5, u "<init>"), (0, u "()V"), (1, .class_ 10), (1, u "java/lang/Object")] 113

def k0c0 : Code := { maxStack := 0, maxLocals := 1, code := object_method_1_code, exceptionTable := #[], attributes := #[] }
def k0m0 : Method := { name := "<init>", desc := "()V", sig := { parameters := [], returnType := none }, accessFlags := 1, code := some k0c0 }
/-- java/lang/Object -/
def k0 : Class := { plain "java/lang/Object" none with
  accessFlags := 33
  interfaces := #[]
  cf := some (fileOf pool0 8 #[] #[{ accessFlags := 1, nameIndex := 5, descriptorIndex := 6, attributes := #[] }] 33 0 #[] #[])
  fields := #[]
  methods := #[k0m0]
  instanceTypes := #[]
  staticTypes := #[]
  resolved := Array.replicate 124 none
  statics := none }

def pool1 : Array CpInfo := pool [(2, .class_ 4), (1, u "java/lang/Object"), (0, u "<init>"), (0, u "()V"), (0, .methodref 8 9), (0, .class_ 10), (0, .nameAndType 11 12), (0, u "com/example/underboss/underboss/ViceFight"), (0, u "duel"), (0, u "([I)V"), (0, .class_ 14), (0, u "com/example/underboss/underboss/ViceFight$Side"), (0, .methodref 13 16), (0, .nameAndType 5 17), (0, u "(IIZ)V"), (0, .methodref 8 19), (0, .nameAndType 5 20), (0, u "(Lcom/example/underboss/underboss/ViceFight$Side;Lcom/example/underboss/underboss/ViceFight$Side;I)V"), (0, .methodref 22 23), (0, .class_ 24), (0, .nameAndType 25 26), (0, u "com/example/underboss/underboss/ViceFightWinnerPinLaw"), (0, u "step"), (0, u "(Lcom/example/underboss/underboss/ViceFight;[I[IJZ)V"), (0, .methodref 8 28), (0, .nameAndType 29 30), (0, u "winner"), (0, u "()I"), (3, u "law"), (0, u "(IJJJJJ)Z")] 6

def k1m0 : Method := { name := "<init>", desc := "()V", sig := { parameters := [], returnType := none }, accessFlags := 2, code := none }
def k1c1 : Code := { maxStack := 4, maxLocals := 8, code := method_2_code, exceptionTable := #[], attributes := #[] }
def k1m1 : Method := { name := "step", desc := "(Lcom/example/underboss/underboss/ViceFight;[I[IJZ)V", sig := { parameters := [(.object "com/example/underboss/underboss/ViceFight"), (.array .int), (.array .int), .long, .boolean], returnType := none }, accessFlags := 10, code := some k1c1 }
def k1c2 : Code := { maxStack := 7, maxLocals := 18, code := code, exceptionTable := #[], attributes := #[] }
def k1m2 : Method := { name := "law", desc := "(IJJJJJ)Z", sig := { parameters := [.int, .long, .long, .long, .long, .long], returnType := some .boolean }, accessFlags := 9, code := some k1c2 }
/-- com/example/underboss/underboss/ViceFightWinnerPinLaw -/
def k1 : Class := { plain "com/example/underboss/underboss/ViceFightWinnerPinLaw" (some 0) with
  accessFlags := 49
  interfaces := #[]
  cf := some (fileOf pool1 22 #[] #[{ accessFlags := 2, nameIndex := 5, descriptorIndex := 6, attributes := #[] }, { accessFlags := 10, nameIndex := 25, descriptorIndex := 26, attributes := #[] }, { accessFlags := 9, nameIndex := 34, descriptorIndex := 35, attributes := #[] }] 49 2 #[] #[])
  fields := #[]
  methods := #[k1m0, k1m1, k1m2]
  instanceTypes := #[]
  staticTypes := #[]
  resolved := Array.replicate 42 none
  statics := none }

def pool2 : Array CpInfo := pool [(1, .methodref 2 3), (0, .class_ 4), (0, .nameAndType 5 6), (0, u "java/lang/Object"), (0, u "<init>"), (0, u "()V"), (0, .class_ 8), (0, u "java/lang/Record")] 13

def k2c0 : Code := { maxStack := 1, maxLocals := 1, code := jdk_30_method_1_code, exceptionTable := #[], attributes := #[] }
def k2m0 : Method := { name := "<init>", desc := "()V", sig := { parameters := [], returnType := none }, accessFlags := 4, code := some k2c0 }
/-- java/lang/Record -/
def k2 : Class := { plain "java/lang/Record" (some 0) with
  accessFlags := 1057
  interfaces := #[]
  cf := some (fileOf pool2 7 #[] #[{ accessFlags := 4, nameIndex := 5, descriptorIndex := 6, attributes := #[] }] 1057 2 #[] #[])
  fields := #[]
  methods := #[k2m0]
  instanceTypes := #[]
  staticTypes := #[]
  resolved := Array.replicate 22 none
  statics := none }

def pool3 : Array CpInfo := pool [(1, .methodref 2 3), (0, .class_ 4), (0, .nameAndType 5 6), (0, u "java/lang/Record"), (0, u "<init>"), (0, u "()V"), (0, .fieldref 8 9), (0, .class_ 10), (0, .nameAndType 11 12), (0, u "com/example/underboss/underboss/ViceFight$Side"), (0, u "seat"), (0, u "I"), (0, .fieldref 8 14), (0, .nameAndType 15 12), (0, u "business"), (0, .fieldref 8 17), (0, .nameAndType 18 19), (0, u "gang"), (0, u "Z"), (12, u "(IIZ)V"), (6, u "()Z"), (3, .class_ 44), (0, u "com/example/underboss/underboss/ViceFight")] 21

def k3c0 : Code := { maxStack := 2, maxLocals := 4, code := prog_8_method_1_code, exceptionTable := #[], attributes := #[] }
def k3m0 : Method := { name := "<init>", desc := "(IIZ)V", sig := { parameters := [.int, .int, .boolean], returnType := none }, accessFlags := 0, code := some k3c0 }
def k3c1 : Code := { maxStack := 1, maxLocals := 1, code := prog_8_method_7_code, exceptionTable := #[], attributes := #[] }
def k3m1 : Method := { name := "gang", desc := "()Z", sig := { parameters := [], returnType := some .boolean }, accessFlags := 1, code := some k3c1 }
/-- com/example/underboss/underboss/ViceFight$Side -/
def k3 : Class := { plain "com/example/underboss/underboss/ViceFight$Side" (some 2) with
  accessFlags := 48
  interfaces := #[]
  cf := some (fileOf pool3 8 #[.nestHost 43] #[{ accessFlags := 0, nameIndex := 5, descriptorIndex := 32, attributes := #[] }, { accessFlags := 1, nameIndex := 18, descriptorIndex := 39, attributes := #[] }] 48 2 #[] #[{ accessFlags := 18, nameIndex := 11, descriptorIndex := 12, attributes := #[] }, { accessFlags := 18, nameIndex := 15, descriptorIndex := 12, attributes := #[] }, { accessFlags := 18, nameIndex := 18, descriptorIndex := 19, attributes := #[] }])
  fields := #[{ name := "seat", type := .int, accessFlags := 18, slot := 0, constantValue := 0 }, { name := "business", type := .int, accessFlags := 18, slot := 1, constantValue := 0 }, { name := "gang", type := .boolean, accessFlags := 18, slot := 2, constantValue := 0 }]
  methods := #[k3m0, k3m1]
  instanceTypes := #[.int, .int, .boolean]
  staticTypes := #[]
  resolved := Array.replicate 66 none
  statics := none }

def pool4 : Array CpInfo := pool [(1, .methodref 2 3), (0, .class_ 4), (0, .nameAndType 5 6), (0, u "java/lang/Object"), (0, u "<init>"), (0, u "()V"), (0, .class_ 8), (0, u "com/example/underboss/underboss/ViceFight"), (0, .fieldref 7 10), (0, .nameAndType 11 12), (0, u "wins"), (0, u "[I"), (0, .fieldref 7 14), (0, .nameAndType 15 12), (0, u "cards"), (0, .class_ 17), (0, u "com/example/underboss/underboss/ViceFight$Side"), (0, .fieldref 7 19), (0, .nameAndType 20 21), (0, u "sides"), (0, u "[Lcom/example/underboss/underboss/ViceFight$Side;"), (0, .fieldref 7 23), (0, .nameAndType 24 25), (0, u "money"), (0, u "I"), (3, u "()I"), (0, .methodref 16 31), (0, .nameAndType 32 33), (0, u "gang"), (0, u "()Z"), (0, .methodref 7 35), (0, .nameAndType 36 37), (0, u "score"), (0, u "(II)I"), (0, u "ATTACKER"), (2, u "DEFENDER"), (1, u "UNDECIDED"), (1, u "SIDES"), (1, u "WINS_NEEDED"), (1, u "(Lcom/example/underboss/underboss/ViceFight$Side;Lcom/example/underboss/underboss/ViceFight$Side;I)V"), (12, u "duel"), (0, u "([I)V"), (0, u "winner")] 5

def k4c0 : Code := { maxStack := 5, maxLocals := 4, code := prog_7_method_1_code, exceptionTable := #[], attributes := #[] }
def k4m0 : Method := { name := "<init>", desc := "(Lcom/example/underboss/underboss/ViceFight$Side;Lcom/example/underboss/underboss/ViceFight$Side;I)V", sig := { parameters := [(.object "com/example/underboss/underboss/ViceFight$Side"), (.object "com/example/underboss/underboss/ViceFight$Side"), .int], returnType := none }, accessFlags := 0, code := some k4c0 }
def k4c1 : Code := { maxStack := 3, maxLocals := 3, code := prog_7_method_10_code, exceptionTable := #[], attributes := #[] }
def k4m1 : Method := { name := "score", desc := "(II)I", sig := { parameters := [.int, .int], returnType := some .int }, accessFlags := 0, code := some k4c1 }
def k4c2 : Code := { maxStack := 4, maxLocals := 4, code := prog_7_method_11_code, exceptionTable := #[], attributes := #[] }
def k4m2 : Method := { name := "duel", desc := "([I)V", sig := { parameters := [(.array .int)], returnType := none }, accessFlags := 0, code := some k4c2 }
def k4c3 : Code := { maxStack := 2, maxLocals := 2, code := prog_7_method_12_code, exceptionTable := #[], attributes := #[] }
def k4m3 : Method := { name := "winner", desc := "()I", sig := { parameters := [], returnType := some .int }, accessFlags := 0, code := some k4c3 }
/-- com/example/underboss/underboss/ViceFight -/
def k4 : Class := { plain "com/example/underboss/underboss/ViceFight" (some 0) with
  accessFlags := 48
  interfaces := #[]
  cf := some (fileOf pool4 7 #[.nestMembers #[16]] #[{ accessFlags := 0, nameIndex := 5, descriptorIndex := 49, attributes := #[] }, { accessFlags := 0, nameIndex := 36, descriptorIndex := 37, attributes := #[] }, { accessFlags := 0, nameIndex := 62, descriptorIndex := 63, attributes := #[] }, { accessFlags := 0, nameIndex := 64, descriptorIndex := 29, attributes := #[] }] 48 2 #[] #[{ accessFlags := 24, nameIndex := 38, descriptorIndex := 25, attributes := #[] }, { accessFlags := 24, nameIndex := 41, descriptorIndex := 25, attributes := #[] }, { accessFlags := 24, nameIndex := 43, descriptorIndex := 25, attributes := #[] }, { accessFlags := 26, nameIndex := 45, descriptorIndex := 25, attributes := #[] }, { accessFlags := 26, nameIndex := 47, descriptorIndex := 25, attributes := #[] }, { accessFlags := 18, nameIndex := 20, descriptorIndex := 21, attributes := #[] }, { accessFlags := 18, nameIndex := 24, descriptorIndex := 25, attributes := #[] }, { accessFlags := 18, nameIndex := 11, descriptorIndex := 12, attributes := #[] }, { accessFlags := 18, nameIndex := 15, descriptorIndex := 12, attributes := #[] }])
  fields := #[{ name := "ATTACKER", type := .int, accessFlags := 24, slot := 0, constantValue := 0 }, { name := "DEFENDER", type := .int, accessFlags := 24, slot := 1, constantValue := 0 }, { name := "UNDECIDED", type := .int, accessFlags := 24, slot := 2, constantValue := 0 }, { name := "SIDES", type := .int, accessFlags := 26, slot := 3, constantValue := 0 }, { name := "WINS_NEEDED", type := .int, accessFlags := 26, slot := 4, constantValue := 0 }, { name := "sides", type := (.array (.object "com/example/underboss/underboss/ViceFight$Side")), accessFlags := 18, slot := 0, constantValue := 0 }, { name := "money", type := .int, accessFlags := 18, slot := 1, constantValue := 0 }, { name := "wins", type := (.array .int), accessFlags := 18, slot := 2, constantValue := 0 }, { name := "cards", type := (.array .int), accessFlags := 18, slot := 3, constantValue := 0 }]
  methods := #[k4m0, k4m1, k4m2, k4m3]
  instanceTypes := #[(.array (.object "com/example/underboss/underboss/ViceFight$Side")), .int, (.array .int), (.array .int)]
  staticTypes := #[.int, .int, .int, .int, .int]
  resolved := Array.replicate 70 none
  statics := none }

def pool5 : Array CpInfo := pool [(1, u "java/lang/Cloneable"), (0, .class_ 1), (0, u "java/lang/Object"), (0, .class_ 3)] 3

/-- java/lang/Cloneable -/
def k5 : Class := { plain "java/lang/Cloneable" (some 0) with
  accessFlags := 1537
  interfaces := #[]
  cf := some (fileOf pool5 2 #[] #[] 1537 4 #[] #[])
  fields := #[]
  methods := #[]
  instanceTypes := #[]
  staticTypes := #[]
  resolved := Array.replicate 8 none
  statics := none }

def pool6 : Array CpInfo := pool [(1, u "java/io/Serializable"), (0, .class_ 1), (0, u "java/lang/Object"), (0, .class_ 3)] 3

/-- java/io/Serializable -/
def k6 : Class := { plain "java/io/Serializable" (some 0) with
  accessFlags := 1537
  interfaces := #[]
  cf := some (fileOf pool6 2 #[] #[] 1537 4 #[] #[])
  fields := #[]
  methods := #[]
  instanceTypes := #[]
  staticTypes := #[]
  resolved := Array.replicate 8 none
  statics := none }

/-- the primitive byte -/
def k7 : Class := { plain "byte" none with kind := .primitive 'B', accessFlags := 0x411 }
/-- [B -/
def k8 : Class := { plain "[B" (some 0) with kind := .array 7 .byte, interfaces := #[5, 6], accessFlags := 1041 }

/-- the primitive int -/
def k9 : Class := { plain "int" none with kind := .primitive 'I', accessFlags := 0x411 }
/-- [I -/
def k10 : Class := { plain "[I" (some 0) with kind := .array 9 .int, interfaces := #[5, 6], accessFlags := 1041 }

/-- [Lcom/example/underboss/underboss/ViceFight$Side; -/
def k11 : Class := { plain "[Lcom/example/underboss/underboss/ViceFight$Side;" (some 0) with kind := .array 3 (.object "com/example/underboss/underboss/ViceFight$Side"), interfaces := #[5, 6], accessFlags := 1041 }

def heap : Heap := #[]
def classes : Array Class := #[k0, k1, k2, k3, k4, k5, k6, k7, k8, k9, k10, k11]
def interned : List (Array UInt16 × Addr) := []
def slotsUsed : Nat := 0
def theMethod : MethodId := ⟨1, 2⟩
def args0 : Array Value := #[.int 5, .long 7, .long 7, .long 7, .long 7, .long 7]
def aboutOver (below : List Frame) : State where
  vm := { classes := classes, interned := interned.toArray }
  heap := heap
  slotsUsed := slotsUsed
  threads := #[{ frames := .invoking theMethod args0 :: below }]
def below0 : List Frame := [.native { method := ⟨0, 0⟩, args := #[] }]
def about1 : State := aboutOver below0
def p0 : Program := .bare "" "" ""
def e0 : Env := launch0.env 0 0 0
theorem w_frames : about1.frames = Frame.invoking theMethod args0 :: below0 := rfl
set_option maxRecDepth 65536 in
theorem w_args : argsFit about1.vm theMethod args0 = true := by decide +kernel
set_option maxRecDepth 65536 in
theorem w_heap : heapFits about1 = true := by decide +kernel
set_option maxRecDepth 65536 in
theorem w_runnable : about1.curStatus? = some .runnable := by decide +kernel
set_option maxRecDepth 65536 in
theorem w_alone : about1.alone = true := by decide +kernel
set_option maxRecDepth 65536 in
theorem w_named : about1.methodNamed? x = some theMethod := by decide +kernel
set_option maxRecDepth 65536 in
theorem w_hears : about1.hears theMethod below0 = true := by decide +kernel
set_option maxRecDepth 65536 in
theorem w_ripe : about1.ripe theMethod args0 below0 = true := by decide +kernel
theorem w_running : about1.status = .running := rfl
set_option maxRecDepth 65536 in
theorem w_room : about1.hasRoom e0.platform room_1 = true :=
  launch0.hasRoom_least _ room_1 (by decide +kernel) (by decide +kernel) (by decide +kernel) (by decide +kernel) (by decide +kernel) (by decide +kernel)
theorem allAtoms_all (ts : List Jvm.Cond) (a : Array Jvm.Value) (st : Jvm.State) : (allAtoms ts).before a st = ts.all (fun c => c.before a st) := by
  induction ts with
  | nil => rfl
  | cons c t ih =>
    show (Jvm.Cond.and c (allAtoms t)).before a st = _
    rw [Jvm.Cond.before_and, ih, List.all_cons]
def words1 : List Jvm.Cond := Jvm.Cond.code x code maxLocals ret :: tables_1
/-- a 'code' word, met by the world's own term for the bytes: nothing is compared byte by byte -/
theorem code_word {y : MethodName} {bytes : ByteArray} {mx : Nat} {rt : Option FieldType} {a : Array Value} {s : State} {m : MethodId} {meth : Method} {c : Code} (h1 : s.methodNamed? y = some m) (h2 : s.vm.method? m = some meth) (h3 : meth.code = some c) (h4 : c.code = bytes)
    (h5 : (c.maxLocals == mx && c.exceptionTable.isEmpty && decide (c.maxStack ≤ mostOperands) && decide (meth.sig.returnType = rt) && !meth.locks && decide (parseMethodDescriptor y.desc = some meth.sig)) = true) : (Jvm.Cond.code y bytes mx rt).before a s = true := by
  simp only [Bool.and_eq_true, beq_iff_eq, Bool.not_eq_true', decide_eq_true_eq] at h5
  obtain ⟨⟨⟨⟨⟨g1, g2⟩, g3⟩, g4⟩, g5⟩, g6⟩ := h5
  simp [Cond.before, Cond.holds, Cond.value, h1, h2, h3, h4, g1, g2, g3, g4, g5, g6]
def isCode : Jvm.Cond → Bool
  | .code _ _ _ _ => true
  | _ => false
theorem all_split {L : List Jvm.Cond} {P : Jvm.Cond → Bool} (h1 : L.all (fun c => isCode c || P c) = true) (h2 : ∀ c ∈ L.filter isCode, P c = true) : L.all P = true := by
  refine List.all_eq_true.mpr fun c hc => ?_
  have h := List.all_eq_true.mp h1 c hc
  rcases Bool.eq_false_or_eq_true (isCode c) with hi | hi
  · exact h2 c (List.mem_filter.mpr ⟨hc, hi⟩)
  · simpa [hi] using h
set_option maxRecDepth 65536 in
theorem w_c0 : (Jvm.Cond.code x code maxLocals ret).before args0 about1 = true := code_word (m := ⟨1, 2⟩) (meth := k1m2) (c := k1c2) (by decide +kernel) rfl rfl rfl (by decide +kernel)
set_option maxRecDepth 65536 in
theorem w_c1 : (Jvm.Cond.code ({ cls := "com/example/underboss/underboss/ViceFight$Side", name := "<init>", desc := "(IIZ)V" } : Jvm.MethodName) prog_8_method_1_code (4 : Nat) (Option.none : Option Jvm.ClassFile.FieldType)).before args0 about1 = true := code_word (m := ⟨3, 0⟩) (meth := k3m0) (c := k3c0) (by decide +kernel) rfl rfl rfl (by decide +kernel)
set_option maxRecDepth 65536 in
theorem w_c2 : (Jvm.Cond.code ({ cls := "java/lang/Record", name := "<init>", desc := "()V" } : Jvm.MethodName) jdk_30_method_1_code (1 : Nat) (Option.none : Option Jvm.ClassFile.FieldType)).before args0 about1 = true := code_word (m := ⟨2, 0⟩) (meth := k2m0) (c := k2c0) (by decide +kernel) rfl rfl rfl (by decide +kernel)
set_option maxRecDepth 65536 in
theorem w_c3 : (Jvm.Cond.code ({ cls := "java/lang/Object", name := "<init>", desc := "()V" } : Jvm.MethodName) object_method_1_code (1 : Nat) (Option.none : Option Jvm.ClassFile.FieldType)).before args0 about1 = true := code_word (m := ⟨0, 0⟩) (meth := k0m0) (c := k0c0) (by decide +kernel) rfl rfl rfl (by decide +kernel)
set_option maxRecDepth 65536 in
theorem w_c4 : (Jvm.Cond.code ({ cls := "com/example/underboss/underboss/ViceFight", name := "<init>", desc := "(Lcom/example/underboss/underboss/ViceFight$Side;Lcom/example/underboss/underboss/ViceFight$Side;I)V" } : Jvm.MethodName) prog_7_method_1_code (4 : Nat) (Option.none : Option Jvm.ClassFile.FieldType)).before args0 about1 = true := code_word (m := ⟨4, 0⟩) (meth := k4m0) (c := k4c0) (by decide +kernel) rfl rfl rfl (by decide +kernel)
set_option maxRecDepth 65536 in
theorem w_c5 : (Jvm.Cond.code ({ cls := "com/example/underboss/underboss/ViceFightWinnerPinLaw", name := "step", desc := "(Lcom/example/underboss/underboss/ViceFight;[I[IJZ)V" } : Jvm.MethodName) method_2_code (8 : Nat) (Option.none : Option Jvm.ClassFile.FieldType)).before args0 about1 = true := code_word (m := ⟨1, 1⟩) (meth := k1m1) (c := k1c1) (by decide +kernel) rfl rfl rfl (by decide +kernel)
set_option maxRecDepth 65536 in
theorem w_c6 : (Jvm.Cond.code ({ cls := "com/example/underboss/underboss/ViceFight", name := "winner", desc := "()I" } : Jvm.MethodName) prog_7_method_12_code (2 : Nat) (Option.some Jvm.ClassFile.FieldType.int)).before args0 about1 = true := code_word (m := ⟨4, 3⟩) (meth := k4m3) (c := k4c3) (by decide +kernel) rfl rfl rfl (by decide +kernel)
set_option maxRecDepth 65536 in
theorem w_c7 : (Jvm.Cond.code ({ cls := "com/example/underboss/underboss/ViceFight", name := "duel", desc := "([I)V" } : Jvm.MethodName) prog_7_method_11_code (4 : Nat) (Option.none : Option Jvm.ClassFile.FieldType)).before args0 about1 = true := code_word (m := ⟨4, 2⟩) (meth := k4m2) (c := k4c2) (by decide +kernel) rfl rfl rfl (by decide +kernel)
set_option maxRecDepth 65536 in
theorem w_c8 : (Jvm.Cond.code ({ cls := "com/example/underboss/underboss/ViceFight", name := "score", desc := "(II)I" } : Jvm.MethodName) prog_7_method_10_code (3 : Nat) (Option.some Jvm.ClassFile.FieldType.int)).before args0 about1 = true := code_word (m := ⟨4, 1⟩) (meth := k4m1) (c := k4c1) (by decide +kernel) rfl rfl rfl (by decide +kernel)
set_option maxRecDepth 65536 in
theorem w_c9 : (Jvm.Cond.code ({ cls := "com/example/underboss/underboss/ViceFight$Side", name := "gang", desc := "()Z" } : Jvm.MethodName) prog_8_method_7_code (1 : Nat) (Option.some Jvm.ClassFile.FieldType.boolean)).before args0 about1 = true := code_word (m := ⟨3, 1⟩) (meth := k3m1) (c := k3c1) (by decide +kernel) rfl rfl rfl (by decide +kernel)
def codes1 : List Jvm.Cond := [Jvm.Cond.code x code maxLocals ret, Jvm.Cond.code ({ cls := "com/example/underboss/underboss/ViceFight$Side", name := "<init>", desc := "(IIZ)V" } : Jvm.MethodName) prog_8_method_1_code (4 : Nat) (Option.none : Option Jvm.ClassFile.FieldType), Jvm.Cond.code ({ cls := "java/lang/Record", name := "<init>", desc := "()V" } : Jvm.MethodName) jdk_30_method_1_code (1 : Nat) (Option.none : Option Jvm.ClassFile.FieldType), Jvm.Cond.code ({ cls := "java/lang/Object", name := "<init>", desc := "()V" } : Jvm.MethodName) object_method_1_code (1 : Nat) (Option.none : Option Jvm.ClassFile.FieldType), Jvm.Cond.code ({ cls := "com/example/underboss/underboss/ViceFight", name := "<init>", desc := "(Lcom/example/underboss/underboss/ViceFight$Side;Lcom/example/underboss/underboss/ViceFight$Side;I)V" } : Jvm.MethodName) prog_7_method_1_code (4 : Nat) (Option.none : Option Jvm.ClassFile.FieldType), Jvm.Cond.code ({ cls := "com/example/underboss/underboss/ViceFightWinnerPinLaw", name := "step", desc := "(Lcom/example/underboss/underboss/ViceFight;[I[IJZ)V" } : Jvm.MethodName) method_2_code (8 : Nat) (Option.none : Option Jvm.ClassFile.FieldType), Jvm.Cond.code ({ cls := "com/example/underboss/underboss/ViceFight", name := "winner", desc := "()I" } : Jvm.MethodName) prog_7_method_12_code (2 : Nat) (Option.some Jvm.ClassFile.FieldType.int), Jvm.Cond.code ({ cls := "com/example/underboss/underboss/ViceFight", name := "duel", desc := "([I)V" } : Jvm.MethodName) prog_7_method_11_code (4 : Nat) (Option.none : Option Jvm.ClassFile.FieldType), Jvm.Cond.code ({ cls := "com/example/underboss/underboss/ViceFight", name := "score", desc := "(II)I" } : Jvm.MethodName) prog_7_method_10_code (3 : Nat) (Option.some Jvm.ClassFile.FieldType.int), Jvm.Cond.code ({ cls := "com/example/underboss/underboss/ViceFight$Side", name := "gang", desc := "()Z" } : Jvm.MethodName) prog_8_method_7_code (1 : Nat) (Option.some Jvm.ClassFile.FieldType.boolean)]
set_option maxRecDepth 65536 in
theorem codes_eq : words1.filter isCode = codes1 := rfl
theorem w_codes : ∀ c ∈ words1.filter isCode, c.before args0 about1 = true := by
  rw [codes_eq]
  intro c hc
  simp only [codes1, List.mem_cons, List.not_mem_nil, or_false] at hc
  rcases hc with rfl | rfl | rfl | rfl | rfl | rfl | rfl | rfl | rfl | rfl
  · exact w_c0
  · exact w_c1
  · exact w_c2
  · exact w_c3
  · exact w_c4
  · exact w_c5
  · exact w_c6
  · exact w_c7
  · exact w_c8
  · exact w_c9
set_option maxRecDepth 65536 in
theorem w_t1 : (words1.take 24).all (fun c => isCode c || c.before args0 about1) = true := by decide +kernel
set_option maxRecDepth 65536 in
theorem w_t2 : ((words1.drop 24).take 24).all (fun c => isCode c || c.before args0 about1) = true := by decide +kernel
set_option maxRecDepth 65536 in
theorem w_t3 : ((words1.drop 24).drop 24).all (fun c => isCode c || c.before args0 about1) = true := by decide +kernel
theorem w_tables : (allAtoms (Jvm.Cond.code x code maxLocals ret :: tables_1)).before args0 about1 = true := by
  rw [allAtoms_all]
  show words1.all (fun c => c.before args0 about1) = true
  refine all_split ?_ w_codes
  rw [← List.take_append_drop 24 words1, List.all_append, w_t1, ← List.take_append_drop 24 (words1.drop 24), List.all_append, w_t2, w_t3]
  rfl
set_option maxRecDepth 65536 in
theorem w_case : (Jvm.Cond.and given_1 narrow_1).before args0 about1 = true := by decide +kernel
theorem w_applies : (headSpec (Jvm.Cond.code x code maxLocals ret :: tables_1) room_1).applies x e0.platform about1 = true :=
  (Spec.applies_iff w_frames).mpr ⟨w_running, w_runnable, w_alone, w_named, w_hears, w_ripe, w_room, w_tables⟩
theorem atStart : AtStart classFile x code maxLocals ret World_1 tables_1 room_1 Calls_1 rest_1 Pre_1 launch0 p0 e0 about1 theMethod args0 below0 :=
  ⟨lists_1, trivial, launch0.admits_env _ _ _, launch0.least_env, fairChoices_fair.cas, fairChoices_fair.clock, w_frames, w_args, w_heap, w_applies, trivial, trivial, w_case⟩
end start1
theorem witness_1 : WitnessClaimed_1 := ⟨start1.p0, start1.e0, start1.about1, start1.theMethod, start1.args0, start1.below0, start1.atStart⟩
end Jvm.Pilot.@@N@@
