import Derived.Test.YtoaehanfknjngaaDoorBx
import Derived.Deep.RegionHeld3
import Derived.BigQuiet
namespace Go.Proofs.YtoaehanfknjngaaDoor.Gs
set_option linter.unusedVariables false
set_option linter.unusedSimpArgs false
open Go.RowKit Go.Proofs.YtoaehanfknjngaaDoor.Ext Go.Proofs.YtoaehanfknjngaaDoor.L Go.Proofs.YtoaehanfknjngaaDoorW.PrintWords Go.Proofs.YtoaehanfknjngaaDoorW.PrintLast Go.Proofs.YtoaehanfknjngaaDoorW.PrintMore
open Go.Proofs.YtoaehanfknjngaaDoor.Com Go.Proofs.YtoaehanfknjngaaDoor.Tree Go.Proofs.YtoaehanfknjngaaDoor.Sg Go.Proofs.YtoaehanfknjngaaDoor.Dt

/-- The number of a type's kind, by its first letter. -/
def kd (c : UInt8) : Int := if c = 121 then 7 else if c = 98 then 1 else if c = 110 then 3 else if c = 113 then 8 else if c = 105 then 4 else if c = 72 then 4 else if c = 117 then 9 else if c = 104 then 9 else if c = 120 then 5 else if c = 116 then 10 else if c = 100 then 11 else if c = 115 then 17 else if c = 111 then 17 else if c = 91 then 16 else if c = 123 then 14 else if c = 42 then 13 else if c = 103 then 18 else if c = 118 then 18 else if c = 40 then 18 else 0
theorem kind_first (s : ByteArray) (c : UInt8) (l : List UInt8) (h : B s = c :: l) : dbus_zzType_Kind.f 9 s = dbus_zzType_Kind.f 9 (mkb [c]) := by
 have h0 := first_of h
 have h1 : bt (mkb [c]) 0 = (c.toNat : Int) := first_of (s := mkb [c]) (c := c) (l := []) rfl
 have z := size_pos h
 have z1 : (mkb [c]).size = 1 := rfl
 have n0 : ¬ s.toList = ([] : List UInt8) := by rw [B_toList, h]; simp
 have n1 : ¬ (mkb [c]).toList = ([] : List UInt8) := by rw [B_toList, B_mkb]; simp
 have p0 : (0 : Int) < (s.size : Int) := by omega
 have p1 : (0 : Int) < ((mkb [c]).size : Int) := by omega
 unfold dbus_zzType_Kind.f
 rw [if_neg n0, if_neg n1, if_pos p0, if_pos p1, h0, h1]
theorem kind_is (s : ByteArray) (c : UInt8) (l : List UInt8) (h : B s = c :: l) : dbus_zzType_Kind.f 9 s = some (kd c) := by
 rw [kind_first s c l h]
 have H : ∀ n : Fin 256, dbus_zzType_Kind.f 9 (mkb [UInt8.ofNat n.val]) = some (kd (UInt8.ofNat n.val)) := by decide +kernel
 have := H ⟨c.toNat, c.toNat_lt⟩
 simp only [UInt8.ofNat_toNat] at this
 exact this

def GPost (g : List UInt8) (w : World) (e : Ending) (w' : World) : Prop := ∃ r : ByteArray, e = .returned (.string r) ∧ B r = g ∧ Below w.heap.size w w'

theorem len_ok (p : Addr) (r : ByteArray) (w : World) (hc : w.cell? p = some (.string r)) (hr : r.size ≤ 255) :
  CallsD Tryd.prog 33 #[.pointer (some p)] .returning w fun e u' w' => u' = .returning ∧ (e = .returned (.tuple #[]) ∧ w' = w) := by
 go_enter_d Tryd.func33, Tryd.ntmps33
 go_wp2
 go_end0
 exact ⟨rfl, rfl⟩

set_option maxHeartbeats 1000000 in
set_option maxRecDepth 100000 in
theorem gs_y (g : Nat) (x y z : Int) (w : World) (hD : Dep w g x y z) (hd : deep x y z = true) : Calls Tryd.prog 26 #[.string ⟨#[121]⟩, .pointer (some ⟨g, 0, none⟩)] w (GPost [121] w) := by
 have AD := Aside0.mk hD
 have HD := Aside0.mk hd
 have hk := Aside0.mk (kind_is ⟨#[121]⟩ 121 [] rfl)
 have hmf : ∀ (fn : Fn) (first cap : Array Value) (w : World), (Instr.makeFunc fn first cap).run Tryd.prog w = .ok (.func fn first cap) w := fun _ _ _ _ => rfl
 clear hD hd
 go_enter_defers Tryd.func26, Tryd.ntmps26
 go_wp2_with (first
  | (go_at_call 32; (with_reducible refine (valid_call g x y z _ (Dep.below AD.out (below_alloc (Below.refl _ _) _))).mono ?_); rintro e w' ⟨rfl, ⟨nd, rfl⟩⟩; rw [HD.out])
  | (go_at_call 34; (with_reducible refine (dbus_zzType_Kind.calls 9 _ _ _ hk.out).mono ?_); rintro e w2 ⟨rfl, ⟨nd2, rfl⟩⟩))
 refine leaves_cons (f := 33) (args := #[.pointer (some ⟨w.heap.size, 0, none⟩)]) (by simp) (by simp [go_sem]) ?_
 have hfin : (((w.alloc (Obj.cells #[Value.string ⟨#[]⟩] 9)).drewN (nd + nd2)).setCell ⟨w.heap.size, 0, none⟩ (.string ⟨#[121]⟩)).cell? ⟨w.heap.size, 0, none⟩ = some (.string ⟨#[121]⟩) := by go_simp
 have hbel : Below w.heap.size w (((w.alloc (Obj.cells #[Value.string ⟨#[]⟩] 9)).drewN (nd + nd2)).setCell ⟨w.heap.size, 0, none⟩ (.string ⟨#[121]⟩)) := below_set (pw_below_drewN (below_alloc (Below.refl _ _) _) _) (Nat.le_refl _)
 generalize (((w.alloc (Obj.cells #[Value.string ⟨#[]⟩] 9)).drewN (nd + nd2)).setCell ⟨w.heap.size, 0, none⟩ (.string ⟨#[121]⟩)) = wf at hfin hbel ⊢
 refine (len_ok ⟨w.heap.size, 0, none⟩ ⟨#[121]⟩ _ hfin (by decide)).mono ?_
 rintro e u' w'' ⟨rfl, rfl, rfl⟩
 simp [Leaves, settle, results, Tryd.results26, go_sem, hfin]
 exact ⟨_, rfl, rfl, hbel⟩

set_option maxHeartbeats 1000000 in
set_option maxRecDepth 100000 in
theorem gs_n (g : Nat) (x y z : Int) (w : World) (hD : Dep w g x y z) (hd : deep x y z = true) : Calls Tryd.prog 26 #[.string ⟨#[110]⟩, .pointer (some ⟨g, 0, none⟩)] w (GPost [110] w) := by
 have AD := Aside0.mk hD
 have HD := Aside0.mk hd
 have hk := Aside0.mk (kind_is ⟨#[110]⟩ 110 [] rfl)
 have hmf : ∀ (fn : Fn) (first cap : Array Value) (w : World), (Instr.makeFunc fn first cap).run Tryd.prog w = .ok (.func fn first cap) w := fun _ _ _ _ => rfl
 clear hD hd
 go_enter_defers Tryd.func26, Tryd.ntmps26
 go_wp2_with (first
  | (go_at_call 32; (with_reducible refine (valid_call g x y z _ (Dep.below AD.out (below_alloc (Below.refl _ _) _))).mono ?_); rintro e w' ⟨rfl, ⟨nd, rfl⟩⟩; rw [HD.out])
  | (go_at_call 34; (with_reducible refine (dbus_zzType_Kind.calls 9 _ _ _ hk.out).mono ?_); rintro e w2 ⟨rfl, ⟨nd2, rfl⟩⟩))
 refine leaves_cons (f := 33) (args := #[.pointer (some ⟨w.heap.size, 0, none⟩)]) (by simp) (by simp [go_sem]) ?_
 have hfin : (((w.alloc (Obj.cells #[Value.string ⟨#[]⟩] 9)).drewN (nd + nd2)).setCell ⟨w.heap.size, 0, none⟩ (.string ⟨#[110]⟩)).cell? ⟨w.heap.size, 0, none⟩ = some (.string ⟨#[110]⟩) := by go_simp
 have hbel : Below w.heap.size w (((w.alloc (Obj.cells #[Value.string ⟨#[]⟩] 9)).drewN (nd + nd2)).setCell ⟨w.heap.size, 0, none⟩ (.string ⟨#[110]⟩)) := below_set (pw_below_drewN (below_alloc (Below.refl _ _) _) _) (Nat.le_refl _)
 generalize (((w.alloc (Obj.cells #[Value.string ⟨#[]⟩] 9)).drewN (nd + nd2)).setCell ⟨w.heap.size, 0, none⟩ (.string ⟨#[110]⟩)) = wf at hfin hbel ⊢
 refine (len_ok ⟨w.heap.size, 0, none⟩ ⟨#[110]⟩ _ hfin (by decide)).mono ?_
 rintro e u' w'' ⟨rfl, rfl, rfl⟩
 simp [Leaves, settle, results, Tryd.results26, go_sem, hfin]
 exact ⟨_, rfl, rfl, hbel⟩

set_option maxHeartbeats 1000000 in
set_option maxRecDepth 100000 in
theorem gs_q (g : Nat) (x y z : Int) (w : World) (hD : Dep w g x y z) (hd : deep x y z = true) : Calls Tryd.prog 26 #[.string ⟨#[113]⟩, .pointer (some ⟨g, 0, none⟩)] w (GPost [113] w) := by
 have AD := Aside0.mk hD
 have HD := Aside0.mk hd
 have hk := Aside0.mk (kind_is ⟨#[113]⟩ 113 [] rfl)
 have hmf : ∀ (fn : Fn) (first cap : Array Value) (w : World), (Instr.makeFunc fn first cap).run Tryd.prog w = .ok (.func fn first cap) w := fun _ _ _ _ => rfl
 clear hD hd
 go_enter_defers Tryd.func26, Tryd.ntmps26
 go_wp2_with (first
  | (go_at_call 32; (with_reducible refine (valid_call g x y z _ (Dep.below AD.out (below_alloc (Below.refl _ _) _))).mono ?_); rintro e w' ⟨rfl, ⟨nd, rfl⟩⟩; rw [HD.out])
  | (go_at_call 34; (with_reducible refine (dbus_zzType_Kind.calls 9 _ _ _ hk.out).mono ?_); rintro e w2 ⟨rfl, ⟨nd2, rfl⟩⟩))
 refine leaves_cons (f := 33) (args := #[.pointer (some ⟨w.heap.size, 0, none⟩)]) (by simp) (by simp [go_sem]) ?_
 have hfin : (((w.alloc (Obj.cells #[Value.string ⟨#[]⟩] 9)).drewN (nd + nd2)).setCell ⟨w.heap.size, 0, none⟩ (.string ⟨#[113]⟩)).cell? ⟨w.heap.size, 0, none⟩ = some (.string ⟨#[113]⟩) := by go_simp
 have hbel : Below w.heap.size w (((w.alloc (Obj.cells #[Value.string ⟨#[]⟩] 9)).drewN (nd + nd2)).setCell ⟨w.heap.size, 0, none⟩ (.string ⟨#[113]⟩)) := below_set (pw_below_drewN (below_alloc (Below.refl _ _) _) _) (Nat.le_refl _)
 generalize (((w.alloc (Obj.cells #[Value.string ⟨#[]⟩] 9)).drewN (nd + nd2)).setCell ⟨w.heap.size, 0, none⟩ (.string ⟨#[113]⟩)) = wf at hfin hbel ⊢
 refine (len_ok ⟨w.heap.size, 0, none⟩ ⟨#[113]⟩ _ hfin (by decide)).mono ?_
 rintro e u' w'' ⟨rfl, rfl, rfl⟩
 simp [Leaves, settle, results, Tryd.results26, go_sem, hfin]
 exact ⟨_, rfl, rfl, hbel⟩

set_option maxHeartbeats 1000000 in
set_option maxRecDepth 100000 in
theorem gs_i (g : Nat) (x y z : Int) (w : World) (hD : Dep w g x y z) (hd : deep x y z = true) : Calls Tryd.prog 26 #[.string ⟨#[105]⟩, .pointer (some ⟨g, 0, none⟩)] w (GPost [105] w) := by
 have AD := Aside0.mk hD
 have HD := Aside0.mk hd
 have hk := Aside0.mk (kind_is ⟨#[105]⟩ 105 [] rfl)
 have hmf : ∀ (fn : Fn) (first cap : Array Value) (w : World), (Instr.makeFunc fn first cap).run Tryd.prog w = .ok (.func fn first cap) w := fun _ _ _ _ => rfl
 clear hD hd
 go_enter_defers Tryd.func26, Tryd.ntmps26
 go_wp2_with (first
  | (go_at_call 32; (with_reducible refine (valid_call g x y z _ (Dep.below AD.out (below_alloc (Below.refl _ _) _))).mono ?_); rintro e w' ⟨rfl, ⟨nd, rfl⟩⟩; rw [HD.out])
  | (go_at_call 34; (with_reducible refine (dbus_zzType_Kind.calls 9 _ _ _ hk.out).mono ?_); rintro e w2 ⟨rfl, ⟨nd2, rfl⟩⟩))
 refine leaves_cons (f := 33) (args := #[.pointer (some ⟨w.heap.size, 0, none⟩)]) (by simp) (by simp [go_sem]) ?_
 have hfin : (((w.alloc (Obj.cells #[Value.string ⟨#[]⟩] 9)).drewN (nd + nd2)).setCell ⟨w.heap.size, 0, none⟩ (.string ⟨#[105]⟩)).cell? ⟨w.heap.size, 0, none⟩ = some (.string ⟨#[105]⟩) := by go_simp
 have hbel : Below w.heap.size w (((w.alloc (Obj.cells #[Value.string ⟨#[]⟩] 9)).drewN (nd + nd2)).setCell ⟨w.heap.size, 0, none⟩ (.string ⟨#[105]⟩)) := below_set (pw_below_drewN (below_alloc (Below.refl _ _) _) _) (Nat.le_refl _)
 generalize (((w.alloc (Obj.cells #[Value.string ⟨#[]⟩] 9)).drewN (nd + nd2)).setCell ⟨w.heap.size, 0, none⟩ (.string ⟨#[105]⟩)) = wf at hfin hbel ⊢
 refine (len_ok ⟨w.heap.size, 0, none⟩ ⟨#[105]⟩ _ hfin (by decide)).mono ?_
 rintro e u' w'' ⟨rfl, rfl, rfl⟩
 simp [Leaves, settle, results, Tryd.results26, go_sem, hfin]
 exact ⟨_, rfl, rfl, hbel⟩

set_option maxHeartbeats 1000000 in
set_option maxRecDepth 100000 in
theorem gs_u (g : Nat) (x y z : Int) (w : World) (hD : Dep w g x y z) (hd : deep x y z = true) : Calls Tryd.prog 26 #[.string ⟨#[117]⟩, .pointer (some ⟨g, 0, none⟩)] w (GPost [117] w) := by
 have AD := Aside0.mk hD
 have HD := Aside0.mk hd
 have hk := Aside0.mk (kind_is ⟨#[117]⟩ 117 [] rfl)
 have hmf : ∀ (fn : Fn) (first cap : Array Value) (w : World), (Instr.makeFunc fn first cap).run Tryd.prog w = .ok (.func fn first cap) w := fun _ _ _ _ => rfl
 clear hD hd
 go_enter_defers Tryd.func26, Tryd.ntmps26
 go_wp2_with (first
  | (go_at_call 32; (with_reducible refine (valid_call g x y z _ (Dep.below AD.out (below_alloc (Below.refl _ _) _))).mono ?_); rintro e w' ⟨rfl, ⟨nd, rfl⟩⟩; rw [HD.out])
  | (go_at_call 34; (with_reducible refine (dbus_zzType_Kind.calls 9 _ _ _ hk.out).mono ?_); rintro e w2 ⟨rfl, ⟨nd2, rfl⟩⟩))
 refine leaves_cons (f := 33) (args := #[.pointer (some ⟨w.heap.size, 0, none⟩)]) (by simp) (by simp [go_sem]) ?_
 have hfin : (((w.alloc (Obj.cells #[Value.string ⟨#[]⟩] 9)).drewN (nd + nd2)).setCell ⟨w.heap.size, 0, none⟩ (.string ⟨#[117]⟩)).cell? ⟨w.heap.size, 0, none⟩ = some (.string ⟨#[117]⟩) := by go_simp
 have hbel : Below w.heap.size w (((w.alloc (Obj.cells #[Value.string ⟨#[]⟩] 9)).drewN (nd + nd2)).setCell ⟨w.heap.size, 0, none⟩ (.string ⟨#[117]⟩)) := below_set (pw_below_drewN (below_alloc (Below.refl _ _) _) _) (Nat.le_refl _)
 generalize (((w.alloc (Obj.cells #[Value.string ⟨#[]⟩] 9)).drewN (nd + nd2)).setCell ⟨w.heap.size, 0, none⟩ (.string ⟨#[117]⟩)) = wf at hfin hbel ⊢
 refine (len_ok ⟨w.heap.size, 0, none⟩ ⟨#[117]⟩ _ hfin (by decide)).mono ?_
 rintro e u' w'' ⟨rfl, rfl, rfl⟩
 simp [Leaves, settle, results, Tryd.results26, go_sem, hfin]
 exact ⟨_, rfl, rfl, hbel⟩

set_option maxHeartbeats 1000000 in
set_option maxRecDepth 100000 in
theorem gs_x (g : Nat) (x y z : Int) (w : World) (hD : Dep w g x y z) (hd : deep x y z = true) : Calls Tryd.prog 26 #[.string ⟨#[120]⟩, .pointer (some ⟨g, 0, none⟩)] w (GPost [120] w) := by
 have AD := Aside0.mk hD
 have HD := Aside0.mk hd
 have hk := Aside0.mk (kind_is ⟨#[120]⟩ 120 [] rfl)
 have hmf : ∀ (fn : Fn) (first cap : Array Value) (w : World), (Instr.makeFunc fn first cap).run Tryd.prog w = .ok (.func fn first cap) w := fun _ _ _ _ => rfl
 clear hD hd
 go_enter_defers Tryd.func26, Tryd.ntmps26
 go_wp2_with (first
  | (go_at_call 32; (with_reducible refine (valid_call g x y z _ (Dep.below AD.out (below_alloc (Below.refl _ _) _))).mono ?_); rintro e w' ⟨rfl, ⟨nd, rfl⟩⟩; rw [HD.out])
  | (go_at_call 34; (with_reducible refine (dbus_zzType_Kind.calls 9 _ _ _ hk.out).mono ?_); rintro e w2 ⟨rfl, ⟨nd2, rfl⟩⟩))
 refine leaves_cons (f := 33) (args := #[.pointer (some ⟨w.heap.size, 0, none⟩)]) (by simp) (by simp [go_sem]) ?_
 have hfin : (((w.alloc (Obj.cells #[Value.string ⟨#[]⟩] 9)).drewN (nd + nd2)).setCell ⟨w.heap.size, 0, none⟩ (.string ⟨#[120]⟩)).cell? ⟨w.heap.size, 0, none⟩ = some (.string ⟨#[120]⟩) := by go_simp
 have hbel : Below w.heap.size w (((w.alloc (Obj.cells #[Value.string ⟨#[]⟩] 9)).drewN (nd + nd2)).setCell ⟨w.heap.size, 0, none⟩ (.string ⟨#[120]⟩)) := below_set (pw_below_drewN (below_alloc (Below.refl _ _) _) _) (Nat.le_refl _)
 generalize (((w.alloc (Obj.cells #[Value.string ⟨#[]⟩] 9)).drewN (nd + nd2)).setCell ⟨w.heap.size, 0, none⟩ (.string ⟨#[120]⟩)) = wf at hfin hbel ⊢
 refine (len_ok ⟨w.heap.size, 0, none⟩ ⟨#[120]⟩ _ hfin (by decide)).mono ?_
 rintro e u' w'' ⟨rfl, rfl, rfl⟩
 simp [Leaves, settle, results, Tryd.results26, go_sem, hfin]
 exact ⟨_, rfl, rfl, hbel⟩

set_option maxHeartbeats 1000000 in
set_option maxRecDepth 100000 in
theorem gs_t (g : Nat) (x y z : Int) (w : World) (hD : Dep w g x y z) (hd : deep x y z = true) : Calls Tryd.prog 26 #[.string ⟨#[116]⟩, .pointer (some ⟨g, 0, none⟩)] w (GPost [116] w) := by
 have AD := Aside0.mk hD
 have HD := Aside0.mk hd
 have hk := Aside0.mk (kind_is ⟨#[116]⟩ 116 [] rfl)
 have hmf : ∀ (fn : Fn) (first cap : Array Value) (w : World), (Instr.makeFunc fn first cap).run Tryd.prog w = .ok (.func fn first cap) w := fun _ _ _ _ => rfl
 clear hD hd
 go_enter_defers Tryd.func26, Tryd.ntmps26
 go_wp2_with (first
  | (go_at_call 32; (with_reducible refine (valid_call g x y z _ (Dep.below AD.out (below_alloc (Below.refl _ _) _))).mono ?_); rintro e w' ⟨rfl, ⟨nd, rfl⟩⟩; rw [HD.out])
  | (go_at_call 34; (with_reducible refine (dbus_zzType_Kind.calls 9 _ _ _ hk.out).mono ?_); rintro e w2 ⟨rfl, ⟨nd2, rfl⟩⟩))
 refine leaves_cons (f := 33) (args := #[.pointer (some ⟨w.heap.size, 0, none⟩)]) (by simp) (by simp [go_sem]) ?_
 have hfin : (((w.alloc (Obj.cells #[Value.string ⟨#[]⟩] 9)).drewN (nd + nd2)).setCell ⟨w.heap.size, 0, none⟩ (.string ⟨#[116]⟩)).cell? ⟨w.heap.size, 0, none⟩ = some (.string ⟨#[116]⟩) := by go_simp
 have hbel : Below w.heap.size w (((w.alloc (Obj.cells #[Value.string ⟨#[]⟩] 9)).drewN (nd + nd2)).setCell ⟨w.heap.size, 0, none⟩ (.string ⟨#[116]⟩)) := below_set (pw_below_drewN (below_alloc (Below.refl _ _) _) _) (Nat.le_refl _)
 generalize (((w.alloc (Obj.cells #[Value.string ⟨#[]⟩] 9)).drewN (nd + nd2)).setCell ⟨w.heap.size, 0, none⟩ (.string ⟨#[116]⟩)) = wf at hfin hbel ⊢
 refine (len_ok ⟨w.heap.size, 0, none⟩ ⟨#[116]⟩ _ hfin (by decide)).mono ?_
 rintro e u' w'' ⟨rfl, rfl, rfl⟩
 simp [Leaves, settle, results, Tryd.results26, go_sem, hfin]
 exact ⟨_, rfl, rfl, hbel⟩

set_option maxHeartbeats 1000000 in
set_option maxRecDepth 100000 in
theorem gs_d (g : Nat) (x y z : Int) (w : World) (hD : Dep w g x y z) (hd : deep x y z = true) : Calls Tryd.prog 26 #[.string ⟨#[100]⟩, .pointer (some ⟨g, 0, none⟩)] w (GPost [100] w) := by
 have AD := Aside0.mk hD
 have HD := Aside0.mk hd
 have hk := Aside0.mk (kind_is ⟨#[100]⟩ 100 [] rfl)
 have hmf : ∀ (fn : Fn) (first cap : Array Value) (w : World), (Instr.makeFunc fn first cap).run Tryd.prog w = .ok (.func fn first cap) w := fun _ _ _ _ => rfl
 clear hD hd
 go_enter_defers Tryd.func26, Tryd.ntmps26
 go_wp2_with (first
  | (go_at_call 32; (with_reducible refine (valid_call g x y z _ (Dep.below AD.out (below_alloc (Below.refl _ _) _))).mono ?_); rintro e w' ⟨rfl, ⟨nd, rfl⟩⟩; rw [HD.out])
  | (go_at_call 34; (with_reducible refine (dbus_zzType_Kind.calls 9 _ _ _ hk.out).mono ?_); rintro e w2 ⟨rfl, ⟨nd2, rfl⟩⟩))
 refine leaves_cons (f := 33) (args := #[.pointer (some ⟨w.heap.size, 0, none⟩)]) (by simp) (by simp [go_sem]) ?_
 have hfin : (((w.alloc (Obj.cells #[Value.string ⟨#[]⟩] 9)).drewN (nd + nd2)).setCell ⟨w.heap.size, 0, none⟩ (.string ⟨#[100]⟩)).cell? ⟨w.heap.size, 0, none⟩ = some (.string ⟨#[100]⟩) := by go_simp
 have hbel : Below w.heap.size w (((w.alloc (Obj.cells #[Value.string ⟨#[]⟩] 9)).drewN (nd + nd2)).setCell ⟨w.heap.size, 0, none⟩ (.string ⟨#[100]⟩)) := below_set (pw_below_drewN (below_alloc (Below.refl _ _) _) _) (Nat.le_refl _)
 generalize (((w.alloc (Obj.cells #[Value.string ⟨#[]⟩] 9)).drewN (nd + nd2)).setCell ⟨w.heap.size, 0, none⟩ (.string ⟨#[100]⟩)) = wf at hfin hbel ⊢
 refine (len_ok ⟨w.heap.size, 0, none⟩ ⟨#[100]⟩ _ hfin (by decide)).mono ?_
 rintro e u' w'' ⟨rfl, rfl, rfl⟩
 simp [Leaves, settle, results, Tryd.results26, go_sem, hfin]
 exact ⟨_, rfl, rfl, hbel⟩

set_option maxHeartbeats 1000000 in
set_option maxRecDepth 100000 in
theorem gs_s (g : Nat) (x y z : Int) (w : World) (hD : Dep w g x y z) (hd : deep x y z = true) : Calls Tryd.prog 26 #[.string ⟨#[115]⟩, .pointer (some ⟨g, 0, none⟩)] w (GPost [115] w) := by
 have AD := Aside0.mk hD
 have HD := Aside0.mk hd
 have hk := Aside0.mk (kind_is ⟨#[115]⟩ 115 [] rfl)
 have hmf : ∀ (fn : Fn) (first cap : Array Value) (w : World), (Instr.makeFunc fn first cap).run Tryd.prog w = .ok (.func fn first cap) w := fun _ _ _ _ => rfl
 clear hD hd
 go_enter_defers Tryd.func26, Tryd.ntmps26
 go_wp2_with (first
  | (go_at_call 32; (with_reducible refine (valid_call g x y z _ (Dep.below AD.out (below_alloc (Below.refl _ _) _))).mono ?_); rintro e w' ⟨rfl, ⟨nd, rfl⟩⟩; rw [HD.out])
  | (go_at_call 34; (with_reducible refine (dbus_zzType_Kind.calls 9 _ _ _ hk.out).mono ?_); rintro e w2 ⟨rfl, ⟨nd2, rfl⟩⟩))
 refine leaves_cons (f := 33) (args := #[.pointer (some ⟨w.heap.size, 0, none⟩)]) (by simp) (by simp [go_sem]) ?_
 have hfin : (((w.alloc (Obj.cells #[Value.string ⟨#[]⟩] 9)).drewN (nd + nd2)).setCell ⟨w.heap.size, 0, none⟩ (.string ⟨#[115]⟩)).cell? ⟨w.heap.size, 0, none⟩ = some (.string ⟨#[115]⟩) := by go_simp
 have hbel : Below w.heap.size w (((w.alloc (Obj.cells #[Value.string ⟨#[]⟩] 9)).drewN (nd + nd2)).setCell ⟨w.heap.size, 0, none⟩ (.string ⟨#[115]⟩)) := below_set (pw_below_drewN (below_alloc (Below.refl _ _) _) _) (Nat.le_refl _)
 generalize (((w.alloc (Obj.cells #[Value.string ⟨#[]⟩] 9)).drewN (nd + nd2)).setCell ⟨w.heap.size, 0, none⟩ (.string ⟨#[115]⟩)) = wf at hfin hbel ⊢
 refine (len_ok ⟨w.heap.size, 0, none⟩ ⟨#[115]⟩ _ hfin (by decide)).mono ?_
 rintro e u' w'' ⟨rfl, rfl, rfl⟩
 simp [Leaves, settle, results, Tryd.results26, go_sem, hfin]
 exact ⟨_, rfl, rfl, hbel⟩

set_option maxHeartbeats 1000000 in
set_option maxRecDepth 100000 in
theorem gs_o (g : Nat) (x y z : Int) (w : World) (hD : Dep w g x y z) (hd : deep x y z = true) : Calls Tryd.prog 26 #[.string ⟨#[111]⟩, .pointer (some ⟨g, 0, none⟩)] w (GPost [111] w) := by
 have AD := Aside0.mk hD
 have HD := Aside0.mk hd
 have hk := Aside0.mk (kind_is ⟨#[111]⟩ 111 [] rfl)
 have hmf : ∀ (fn : Fn) (first cap : Array Value) (w : World), (Instr.makeFunc fn first cap).run Tryd.prog w = .ok (.func fn first cap) w := fun _ _ _ _ => rfl
 clear hD hd
 go_enter_defers Tryd.func26, Tryd.ntmps26
 go_wp2_with (first
  | (go_at_call 32; (with_reducible refine (valid_call g x y z _ (Dep.below AD.out (below_alloc (Below.refl _ _) _))).mono ?_); rintro e w' ⟨rfl, ⟨nd, rfl⟩⟩; rw [HD.out])
  | (go_at_call 34; (with_reducible refine (dbus_zzType_Kind.calls 9 _ _ _ hk.out).mono ?_); rintro e w2 ⟨rfl, ⟨nd2, rfl⟩⟩))
 refine leaves_cons (f := 33) (args := #[.pointer (some ⟨w.heap.size, 0, none⟩)]) (by simp) (by simp [go_sem]) ?_
 have hfin : (((w.alloc (Obj.cells #[Value.string ⟨#[]⟩] 9)).drewN (nd + nd2)).setCell ⟨w.heap.size, 0, none⟩ (.string ⟨#[111]⟩)).cell? ⟨w.heap.size, 0, none⟩ = some (.string ⟨#[111]⟩) := by go_simp
 have hbel : Below w.heap.size w (((w.alloc (Obj.cells #[Value.string ⟨#[]⟩] 9)).drewN (nd + nd2)).setCell ⟨w.heap.size, 0, none⟩ (.string ⟨#[111]⟩)) := below_set (pw_below_drewN (below_alloc (Below.refl _ _) _) _) (Nat.le_refl _)
 generalize (((w.alloc (Obj.cells #[Value.string ⟨#[]⟩] 9)).drewN (nd + nd2)).setCell ⟨w.heap.size, 0, none⟩ (.string ⟨#[111]⟩)) = wf at hfin hbel ⊢
 refine (len_ok ⟨w.heap.size, 0, none⟩ ⟨#[111]⟩ _ hfin (by decide)).mono ?_
 rintro e u' w'' ⟨rfl, rfl, rfl⟩
 simp [Leaves, settle, results, Tryd.results26, go_sem, hfin]
 exact ⟨_, rfl, rfl, hbel⟩

set_option maxHeartbeats 1000000 in
set_option maxRecDepth 100000 in
theorem gs_g (g : Nat) (x y z : Int) (w : World) (hD : Dep w g x y z) (hd : deep x y z = true) : Calls Tryd.prog 26 #[.string ⟨#[103]⟩, .pointer (some ⟨g, 0, none⟩)] w (GPost [103] w) := by
 have AD := Aside0.mk hD
 have HD := Aside0.mk hd
 have hk := Aside0.mk (kind_is ⟨#[103]⟩ 103 [] rfl)
 have hmf : ∀ (fn : Fn) (first cap : Array Value) (w : World), (Instr.makeFunc fn first cap).run Tryd.prog w = .ok (.func fn first cap) w := fun _ _ _ _ => rfl
 clear hD hd
 go_enter_defers Tryd.func26, Tryd.ntmps26
 go_wp2_with (first
  | (go_at_call 32; (with_reducible refine (valid_call g x y z _ (Dep.below AD.out (below_alloc (Below.refl _ _) _))).mono ?_); rintro e w' ⟨rfl, ⟨nd, rfl⟩⟩; rw [HD.out])
  | (go_at_call 34; (with_reducible refine (dbus_zzType_Kind.calls 9 _ _ _ hk.out).mono ?_); rintro e w2 ⟨rfl, ⟨nd2, rfl⟩⟩))
 refine leaves_cons (f := 33) (args := #[.pointer (some ⟨w.heap.size, 0, none⟩)]) (by simp) (by simp [go_sem]) ?_
 have hfin : (((w.alloc (Obj.cells #[Value.string ⟨#[]⟩] 9)).drewN (nd + nd2)).setCell ⟨w.heap.size, 0, none⟩ (.string ⟨#[103]⟩)).cell? ⟨w.heap.size, 0, none⟩ = some (.string ⟨#[103]⟩) := by go_simp
 have hbel : Below w.heap.size w (((w.alloc (Obj.cells #[Value.string ⟨#[]⟩] 9)).drewN (nd + nd2)).setCell ⟨w.heap.size, 0, none⟩ (.string ⟨#[103]⟩)) := below_set (pw_below_drewN (below_alloc (Below.refl _ _) _) _) (Nat.le_refl _)
 generalize (((w.alloc (Obj.cells #[Value.string ⟨#[]⟩] 9)).drewN (nd + nd2)).setCell ⟨w.heap.size, 0, none⟩ (.string ⟨#[103]⟩)) = wf at hfin hbel ⊢
 refine (len_ok ⟨w.heap.size, 0, none⟩ ⟨#[103]⟩ _ hfin (by decide)).mono ?_
 rintro e u' w'' ⟨rfl, rfl, rfl⟩
 simp [Leaves, settle, results, Tryd.results26, go_sem, hfin]
 exact ⟨_, rfl, rfl, hbel⟩

set_option maxHeartbeats 1000000 in
set_option maxRecDepth 100000 in
theorem gs_v (g : Nat) (x y z : Int) (w : World) (hD : Dep w g x y z) (hd : deep x y z = true) : Calls Tryd.prog 26 #[.string ⟨#[118]⟩, .pointer (some ⟨g, 0, none⟩)] w (GPost [118] w) := by
 have AD := Aside0.mk hD
 have HD := Aside0.mk hd
 have hk := Aside0.mk (kind_is ⟨#[118]⟩ 118 [] rfl)
 have hmf : ∀ (fn : Fn) (first cap : Array Value) (w : World), (Instr.makeFunc fn first cap).run Tryd.prog w = .ok (.func fn first cap) w := fun _ _ _ _ => rfl
 clear hD hd
 go_enter_defers Tryd.func26, Tryd.ntmps26
 go_wp2_with (first
  | (go_at_call 32; (with_reducible refine (valid_call g x y z _ (Dep.below AD.out (below_alloc (Below.refl _ _) _))).mono ?_); rintro e w' ⟨rfl, ⟨nd, rfl⟩⟩; rw [HD.out])
  | (go_at_call 34; (with_reducible refine (dbus_zzType_Kind.calls 9 _ _ _ hk.out).mono ?_); rintro e w2 ⟨rfl, ⟨nd2, rfl⟩⟩))
 refine leaves_cons (f := 33) (args := #[.pointer (some ⟨w.heap.size, 0, none⟩)]) (by simp) (by simp [go_sem]) ?_
 have hfin : (((w.alloc (Obj.cells #[Value.string ⟨#[]⟩] 9)).drewN (nd + nd2)).setCell ⟨w.heap.size, 0, none⟩ (.string ⟨#[118]⟩)).cell? ⟨w.heap.size, 0, none⟩ = some (.string ⟨#[118]⟩) := by go_simp
 have hbel : Below w.heap.size w (((w.alloc (Obj.cells #[Value.string ⟨#[]⟩] 9)).drewN (nd + nd2)).setCell ⟨w.heap.size, 0, none⟩ (.string ⟨#[118]⟩)) := below_set (pw_below_drewN (below_alloc (Below.refl _ _) _) _) (Nat.le_refl _)
 generalize (((w.alloc (Obj.cells #[Value.string ⟨#[]⟩] 9)).drewN (nd + nd2)).setCell ⟨w.heap.size, 0, none⟩ (.string ⟨#[118]⟩)) = wf at hfin hbel ⊢
 refine (len_ok ⟨w.heap.size, 0, none⟩ ⟨#[118]⟩ _ hfin (by decide)).mono ?_
 rintro e u' w'' ⟨rfl, rfl, rfl⟩
 simp [Leaves, settle, results, Tryd.results26, go_sem, hfin]
 exact ⟨_, rfl, rfl, hbel⟩

set_option maxHeartbeats 1000000 in
set_option maxRecDepth 100000 in
theorem gs_h (g : Nat) (x y z : Int) (w : World) (hD : Dep w g x y z) (hd : deep x y z = true) : Calls Tryd.prog 26 #[.string ⟨#[104]⟩, .pointer (some ⟨g, 0, none⟩)] w (GPost [104] w) := by
 have AD := Aside0.mk hD
 have HD := Aside0.mk hd
 have hk := Aside0.mk (kind_is ⟨#[104]⟩ 104 [] rfl)
 have hmf : ∀ (fn : Fn) (first cap : Array Value) (w : World), (Instr.makeFunc fn first cap).run Tryd.prog w = .ok (.func fn first cap) w := fun _ _ _ _ => rfl
 clear hD hd
 go_enter_defers Tryd.func26, Tryd.ntmps26
 go_wp2_with (first
  | (go_at_call 32; (with_reducible refine (valid_call g x y z _ (Dep.below AD.out (below_alloc (Below.refl _ _) _))).mono ?_); rintro e w' ⟨rfl, ⟨nd, rfl⟩⟩; rw [HD.out])
  | (go_at_call 34; (with_reducible refine (dbus_zzType_Kind.calls 9 _ _ _ hk.out).mono ?_); rintro e w2 ⟨rfl, ⟨nd2, rfl⟩⟩))
 refine leaves_cons (f := 33) (args := #[.pointer (some ⟨w.heap.size, 0, none⟩)]) (by simp) (by simp [go_sem]) ?_
 have hfin : (((w.alloc (Obj.cells #[Value.string ⟨#[]⟩] 9)).drewN (nd + nd2)).setCell ⟨w.heap.size, 0, none⟩ (.string ⟨#[104]⟩)).cell? ⟨w.heap.size, 0, none⟩ = some (.string ⟨#[104]⟩) := by go_simp
 have hbel : Below w.heap.size w (((w.alloc (Obj.cells #[Value.string ⟨#[]⟩] 9)).drewN (nd + nd2)).setCell ⟨w.heap.size, 0, none⟩ (.string ⟨#[104]⟩)) := below_set (pw_below_drewN (below_alloc (Below.refl _ _) _) _) (Nat.le_refl _)
 generalize (((w.alloc (Obj.cells #[Value.string ⟨#[]⟩] 9)).drewN (nd + nd2)).setCell ⟨w.heap.size, 0, none⟩ (.string ⟨#[104]⟩)) = wf at hfin hbel ⊢
 refine (len_ok ⟨w.heap.size, 0, none⟩ ⟨#[104]⟩ _ hfin (by decide)).mono ?_
 rintro e u' w'' ⟨rfl, rfl, rfl⟩
 simp [Leaves, settle, results, Tryd.results26, go_sem, hfin]
 exact ⟨_, rfl, rfl, hbel⟩

set_option maxHeartbeats 1000000 in
set_option maxRecDepth 100000 in
theorem gs_b (g : Nat) (x y z : Int) (w : World) (hD : Dep w g x y z) (hd : deep x y z = true) : Calls Tryd.prog 26 #[.string ⟨#[98]⟩, .pointer (some ⟨g, 0, none⟩)] w (GPost [98] w) := by
 have AD := Aside0.mk hD
 have HD := Aside0.mk hd
 have hk := Aside0.mk (kind_is ⟨#[98]⟩ 98 [] rfl)
 have hmf : ∀ (fn : Fn) (first cap : Array Value) (w : World), (Instr.makeFunc fn first cap).run Tryd.prog w = .ok (.func fn first cap) w := fun _ _ _ _ => rfl
 clear hD hd
 go_enter_defers Tryd.func26, Tryd.ntmps26
 go_wp2_with (first
  | (go_at_call 32; (with_reducible refine (valid_call g x y z _ (Dep.below AD.out (below_alloc (Below.refl _ _) _))).mono ?_); rintro e w' ⟨rfl, ⟨nd, rfl⟩⟩; rw [HD.out])
  | (go_at_call 34; (with_reducible refine (dbus_zzType_Kind.calls 9 _ _ _ hk.out).mono ?_); rintro e w2 ⟨rfl, ⟨nd2, rfl⟩⟩))
 refine leaves_cons (f := 33) (args := #[.pointer (some ⟨w.heap.size, 0, none⟩)]) (by simp) (by simp [go_sem]) ?_
 have hfin : (((w.alloc (Obj.cells #[Value.string ⟨#[]⟩] 9)).drewN (nd + nd2)).setCell ⟨w.heap.size, 0, none⟩ (.string ⟨#[98]⟩)).cell? ⟨w.heap.size, 0, none⟩ = some (.string ⟨#[98]⟩) := by go_simp
 have hbel : Below w.heap.size w (((w.alloc (Obj.cells #[Value.string ⟨#[]⟩] 9)).drewN (nd + nd2)).setCell ⟨w.heap.size, 0, none⟩ (.string ⟨#[98]⟩)) := below_set (pw_below_drewN (below_alloc (Below.refl _ _) _) _) (Nat.le_refl _)
 generalize (((w.alloc (Obj.cells #[Value.string ⟨#[]⟩] 9)).drewN (nd + nd2)).setCell ⟨w.heap.size, 0, none⟩ (.string ⟨#[98]⟩)) = wf at hfin hbel ⊢
 refine (len_ok ⟨w.heap.size, 0, none⟩ ⟨#[98]⟩ _ hfin (by decide)).mono ?_
 rintro e u' w'' ⟨rfl, rfl, rfl⟩
 simp [Leaves, settle, results, Tryd.results26, go_sem, hfin]
 exact ⟨_, rfl, rfl, hbel⟩

/-- getSignature's contract at a type. -/
def GS (t : T) : Prop := ∀ (s : ByteArray) (g : Nat) (x y z : Int) (w : World), B s = gt t → fits t (32 - x) (32 - y) (32 - z) = true → (txt t).length ≤ 255 → Dep w g x y z → 0 ≤ x → 0 ≤ y → 0 ≤ z → Calls Tryd.prog 26 #[.string s, .pointer (some ⟨g, 0, none⟩)] w (GPost (txt t) w)
theorem GS.go {t : T} (h : GS t) (s : ByteArray) (g : Nat) (x y z : Int) (w : World) (hB : B s = gt t) (hf : fits t (32 - x) (32 - y) (32 - z) = true) (hl : (txt t).length ≤ 255) (hD : Dep w g x y z) (hx : 0 ≤ x) (hy : 0 ≤ y) (hz : 0 ≤ z) :
  Calls Tryd.prog 26 #[.string s, .pointer (some ⟨g, 0, none⟩)] w (GPost (txt t) w) := h s g x y z w hB hf hl hD hx hy hz
theorem fits_deep {t : T} {x y z : Int} (h : fits t (32 - x) (32 - y) (32 - z) = true) : x ≤ 32 ∧ y ≤ 32 ∧ z ≤ 32 := by
 have := fits_room t _ _ _ h
 simp only [room, Bool.and_eq_true, decide_eq_true_eq] at this
 omega
theorem deep_of {x y z : Int} (h : x ≤ 32 ∧ y ≤ 32 ∧ z ≤ 32) : deep x y z = true := by
 simp [deep, h.1, h.2.1, h.2.2]
theorem elem_slice (s : ByteArray) (l : List UInt8) (h : B s = 91 :: l) : dbus_zzType_Elem.f 9 s = some (s.extract 1 s.size) := by
 unfold dbus_zzType_Elem.f
 rw [kind_is s 91 l h]
 have z := size_pos h
 rw [Option.bind_some, if_neg (by decide), if_pos (by omega)]
theorem elem_map (s : ByteArray) (k : UInt8) (l : List UInt8) (h : B s = 123 :: k :: l) : dbus_zzType_Elem.f 9 s = some (s.extract 2 s.size) := by
 unfold dbus_zzType_Elem.f
 rw [kind_is s 123 (k :: l) h]
 have z := size_pos h
 rw [Option.bind_some, if_pos (by decide), if_pos (by simp only [List.length_cons] at z; omega)]
theorem key_map (s : ByteArray) (k : UInt8) (l : List UInt8) (h : B s = 123 :: k :: l) : dbus_zzType_Key.f s = some (s.extract 1 2) := by
 unfold dbus_zzType_Key.f
 have z := size_pos h
 rw [if_pos (by decide), if_pos (by simp only [List.length_cons] at z; omega)]

theorem leaves_congr {P : Program} {fn : Func} {t1 t2 : Array Value} {R : Ending → World → Prop} (h : results fn t1 = results fn t2) : ∀ (ds : List Deferred) (u : FrameMode) (w : World), Leaves P fn t1 R ds u w → Leaves P fn t2 R ds u w
 | [], .returning, w, ⟨v, h1, h2⟩ => ⟨v, h ▸ h1, h2⟩
 | [], .panicking c, w, x => x
 | d :: ds, u, w, ⟨hu, fv, cap, f, args, h1, h2, h3⟩ => ⟨hu, fv, cap, f, args, h1, h2, h3.mono (fun e u' w' x => by
  cases e with
  | returned v => exact leaves_congr h ds _ _ x
  | panicked c => exact leaves_congr h ds _ _ x
  | outgrown => exact x)⟩
theorem put_results (a : Act) (t : Nat) (v : Value) (ht : 4 < t) : results Tryd.f26 (a.put (some t) v).tmps = results Tryd.f26 a.tmps := by
 have h1 : ¬ t = 4 := by omega
 simp [results, Tryd.results26, Act.put, Array.getElem?_setIfInBounds, h1]
theorem panic_put {R : Ending → World → Prop} (K K1 : Act → World → Prop) (t : Nat) (ht : 4 < t) (v : Value) : ∀ c a w, Exit.then K (Exit.inBlock 0 (Exit.then K1 (bodyPostD Tryd.prog Tryd.f26 R))) (.panic c) (a.put (some t) v) w → Exit.then K (Exit.inBlock 0 (Exit.then K1 (bodyPostD Tryd.prog Tryd.f26 R))) (.panic c) a w :=
 fun c a w h => leaves_congr (put_results a t v ht) _ _ _ h

def T26_53 : Bool × List (List Nat × List Nat) := (true, [([], []), ([0], [0]), ([], []), ([2], [2]), ([3], [3]), ([4, 1], [4]), ([1, 5, 5], [1, 5]), ([6], [6]), ([7, 6, 0, 1, 2, 3, 4, 5, 6, 7], [7])])
def B26_53 : List Nat := [0, 1, 0, 4, 12, 31, 63, 127, 255]
theorem tab26_53 : rtab .any (opsOf Tryd.f26 53) = T26_53 := by kernel_rfl
theorem bits26_53 : waitsOk T26_53.2 B26_53 = true := by kernel_rfl

set_option maxHeartbeats 2000000 in
set_option maxRecDepth 100000 in
theorem gs_array (t : T) (ih : GS t) : GS (.a t) := by
 intro s g x y z w hB hf hl hD hx hy hz
 have hB' : B s = 91 :: gt t := hB
 have AD := Aside0.mk hD
 have hdp := fits_deep hf
 have HD := Aside0.mk (deep_of hdp)
 have hmf : ∀ (fn : Fn) (first cap : Array Value) (w : World), (Instr.makeFunc fn first cap).run Tryd.prog w = .ok (.func fn first cap) w := fun _ _ _ _ => rfl
 have hk := Aside0.mk (kind_is s 91 _ hB')
 have HE := Aside0.mk (elem_slice s _ hB')
 have hB1 : Aside0 (B (s.extract 1 s.size) = gt t) := ⟨by rw [B_from, hB']; rfl⟩
 have hf1 : Aside0 (fits t (32 - (x + 1)) (32 - y) (32 - z) = true) := ⟨by simp only [fits, Bool.and_eq_true] at hf; rw [show 32 - (x + 1) = 32 - x - 1 from by omega]; exact hf.2⟩
 have hL := Aside0.mk hl
 have hl1 : Aside0 ((txt t).length ≤ 255) := ⟨by simp only [txt, List.length_cons] at hl; omega⟩
 have IH := Aside0.mk ih
 have hsz : 0 < s.size := by have := size_pos hB'; omega
 have hne := ne_str (a := s) (by omega)
 clear hB hB' hf hl hD ih hsz
 go_enter_defers Tryd.func26, Tryd.ntmps26
 go_wp2_with (first
  | (go_at_call 32; (with_reducible refine (valid_call g x y z _ (Dep.below AD.out (below_alloc (Below.refl _ _) _))).mono ?_); rintro e w' ⟨rfl, ⟨nd, rfl⟩⟩; rw [HD.out])
  | (go_at_call 34; (with_reducible refine (dbus_zzType_Kind.calls 9 _ _ _ hk.out).mono ?_); rintro e w2 ⟨rfl, ⟨nd2, rfl⟩⟩))
 refine start_ (n := 9) (S := fun w' => w'.cell? ⟨g, 0, none⟩ = some (.int .i64 x) ∧ w'.cell? ⟨g, 1, none⟩ = some (.int .i64 y) ∧ w'.cell? ⟨g, 2, none⟩ = some (.int .i64 z)) (ds := [8]) #[false, false, false, false, false, false, false, false, false] (by kernel_rfl) rfl rfl (Dep.below AD.out (below_drew1 (pw_below_drewN (below_alloc (Below.refl _ _) _) _))) (fun hHeld => ?_); refine with_tabW tab26_53 bits26_53 (fun HT_ HW_ => ?_)
 refine pure_ (i := 0) (N := some 97) (v := ?_) (a' := ?_) #[true, false, false, false, false, false, false, false, false] rfl rfl (any_of HT_.out (by kernel_rfl)) (panic_put _ _ 97 (by decide) _) (Or.inl ⟨by rfl, ?_⟩) ?_ ?_
 rotate_left
 ·intro w_
  go_simp
  with_reducible rfl
 rotate_left
 ·simp only [Act.put, List.setIfInBounds_toArray, List.set_cons_zero, List.set_cons_succ, i64_w, i32_w]
  rfl
 refine pure_ (i := 2) (N := some 99) (v := ?_) (a' := ?_) #[true, false, true, false, false, false, false, false, false] rfl rfl (any_of HT_.out (by kernel_rfl)) (panic_put _ _ 99 (by decide) _) (Or.inl ⟨by rfl, ?_⟩) ?_ ?_
 rotate_left
 ·intro w_
  go_simp
  with_reducible rfl
 rotate_left
 ·simp only [Act.put, List.setIfInBounds_toArray, List.set_cons_zero, List.set_cons_succ, i64_w, i32_w]
  rfl
 refine pure_ (i := 3) (N := some 100) (v := ?_) (a' := ?_) #[true, false, true, true, false, false, false, false, false] rfl rfl (any_of HT_.out (by kernel_rfl)) (panic_put _ _ 100 (by decide) _) (Or.inl ⟨by rfl, ?_⟩) ?_ ?_
 rotate_left
 ·intro w_
  go_simp
  with_reducible rfl
 rotate_left
 ·simp only [Act.put, List.setIfInBounds_toArray, List.set_cons_zero, List.set_cons_succ, i64_w, i32_w]
  rfl
 refine take_ (i := 4) (N := some 101) (v := ?_) (a' := ?_) #[true, false, true, true, true, false, false, false, false] rfl rfl (take_ofW HT_.out HW_.out (by kernel_rfl)) (panic_put _ _ 101 (by decide) _) (Or.inl ⟨by rfl, ?_⟩) hHeld ?_ ?_
 rotate_left
 ·rintro w_ ⟨s0, s1, s2⟩
  go_simp
  with_reducible rfl
 rotate_left
 ·simp only [Act.put, List.setIfInBounds_toArray, List.set_cons_zero, List.set_cons_succ, i64_w, i32_w]
  rfl
 refine one_ (i := 1) (N := some 98) #[true, true, true, true, true, false, false, false, false] rfl rfl (one_of HT_.out (by kernel_rfl)) (by decide) (fun K hK => ?_)
 refine goes_ Tryd.func35 (by kernel_rfl) rfl #[.string s] (by rfl) rfl rfl (by (try simp only [List.map_toArray, List.map_cons, List.map_nil]); first | done | rfl) ?_
 with_reducible refine (dbus_zzType_Elem.calls 9 _ _ _ HE.out).mono ?_
 rintro e w3 ⟨rfl, ⟨nd3, rfl⟩⟩
 refine ⟨_, rfl, ?_⟩
 refine hK.out _ _ (Dep.below AD.out (pw_below_drewN (below_drew1 (pw_below_drewN (below_alloc (Below.refl _ _) _) _)) _)) (fun hHeld => ?_)
 clear hK K
 refine norm_ (a' := ?_) ?_ ?_
 rotate_left
 ·show Act.put _ (some 98) _ = _
  simp only [Act.put, List.setIfInBounds_toArray, List.set_cons_zero, List.set_cons_succ, i64_w, i32_w]
  rfl
 refine one_ (i := 5) (N := some 102) #[true, true, true, true, true, true, false, false, false] rfl rfl (one_of HT_.out (by kernel_rfl)) (by decide) (fun K hK => ?_)
 refine goes_ Tryd.func40 (by kernel_rfl) rfl #[.agg #[.int .i64 x, .int .i64 y, .int .i64 z]] (by rfl) rfl rfl (by (try simp only [List.map_toArray, List.map_cons, List.map_nil]); first | done | rfl) ?_
 with_reducible refine (arr_call x y z _ (by omega) (by omega)).mono ?_
 rintro e w2 ⟨rfl, rfl⟩
 refine ⟨_, rfl, ?_⟩
 refine hK.out _ _ (Dep.below AD.out (below_alloc (pw_below_drewN (below_drew1 (pw_below_drewN (below_alloc (Below.refl _ _) _) _)) _) _)) (fun hHeld => ?_)
 clear hK K
 refine norm_ (a' := ?_) ?_ ?_
 rotate_left
 ·show Act.put _ (some 102) _ = _
  simp only [Act.put, List.setIfInBounds_toArray, List.set_cons_zero, List.set_cons_succ, i64_w, i32_w]
  rfl
 refine one_ (i := 6) (N := some 103) #[true, true, true, true, true, true, true, false, false] rfl rfl (one_of HT_.out (by kernel_rfl)) (by decide) (fun K hK => ?_)
 refine goes_ Tryd.func26 (by kernel_rfl) rfl #[.string (s.extract 1 s.size), .pointer (some ⟨_, 0, none⟩)] (by rfl) rfl rfl (by (try simp only [List.map_toArray, List.map_cons, List.map_nil]); first | done | rfl) ?_
 with_reducible refine (GS.go IH.out _ _ (x + 1) y z _ hB1.out hf1.out hl1.out (Dep.new _ _ _ _) (by omega) (by omega) (by omega)).mono ?_
 rintro e w3 ⟨r3, rfl, hr3, hb3⟩
 have HR3 := Aside0.mk hr3
 have HB3 := Aside0.mk (below_step (w := w) (below_alloc (pw_below_drewN (below_drew1 (pw_below_drewN (below_alloc (Below.refl _ _) _) _)) _) _) hb3)
 have BKS := Aside0.mk (blk_below (blk_alloc (blk_drewN (blk_drew (blk_drewN (blk_new w (Obj.cells #[Value.string ⟨#[]⟩] 9)) (nd + nd2))) nd3) _) hb3)
 have hr3s : r3.size ≤ 254 := (by have := hl1.out; rw [← B_length, hr3]; have := hL.out; simp only [txt, List.length_cons] at this; omega)
 have hq3 : (9223372036854775807 < 1 + r3.size) = False := eq_false (by omega)
 clear hr3 hb3
 refine ⟨_, rfl, ?_⟩
 refine hK.out _ _ (Dep.below AD.out HB3.out) (fun hHeld => ?_)
 clear hK K
 refine norm_ (a' := ?_) ?_ ?_
 rotate_left
 ·show Act.put _ (some 103) _ = _
  simp only [Act.put, List.setIfInBounds_toArray, List.set_cons_zero, List.set_cons_succ, i64_w, i32_w]
  rfl
 refine pure_ (i := 7) (N := some 104) (v := ?_) (a' := ?_) #[true, true, true, true, true, true, true, true, false] rfl rfl (any_of HT_.out (by kernel_rfl)) (panic_put _ _ 104 (by decide) _) (Or.inl ⟨by rfl, ?_⟩) ?_ ?_
 rotate_left
 ·intro w_
  go_simp
  with_reducible rfl
 rotate_left
 ·simp only [Act.put, List.setIfInBounds_toArray, List.set_cons_zero, List.set_cons_succ, i64_w, i32_w]
  rfl
 refine last_ (i := 8) (N := none) #[true, true, true, true, true, true, true, true, true] rfl rfl (one_of HT_.out (by kernel_rfl)) (by decide) (fun K hK => ?_)
 have hs27 := (blk_cell BKS.out 0).trans rfl
 have hfs27 := blk_frozen BKS.out 0
 refine skip_ (w1 := ?_) (by rfl) rfl ?_ ?_
 rotate_left
 ·go_simp
  rfl
 refine hK.out _ _ ?_
 clear hK K
 refine done_ (done_of HT_.out (by kernel_rfl)) ?_
 go_wp2
 refine leaves_cons (f := 33) (args := #[.pointer (some ⟨w.heap.size, 0, none⟩)]) (by simp) (by simp [go_sem]) ?_
 have hfin := (blk_cell (blk_set BKS.out 0 (.string (⟨#[97]⟩ ++ r3))) 0).trans rfl
 have hbel := below_set (v := .string (⟨#[97]⟩ ++ r3)) (j := 0) HB3.out (Nat.le_refl _)
 generalize (w3.setCell ⟨w.heap.size, 0, none⟩ (.string (⟨#[97]⟩ ++ r3))) = wf at hfin hbel ⊢
 refine (len_ok ⟨w.heap.size, 0, none⟩ _ _ hfin (by rw [ByteArray.size_append, show (⟨#[97]⟩ : ByteArray).size = 1 from rfl]; omega)).mono ?_
 rintro e u' w'' ⟨rfl, rfl, rfl⟩
 simp [Leaves, settle, results, Tryd.results26, go_sem, hfin]
 exact ⟨_, rfl, by rw [B_append, HR3.out]; rfl, hbel⟩

theorem gs_letter (c : UInt8) (ho : (basic c || c == 118) = true) : GS (.b c) := by
 intro s g x y z w hB hf hl hD hx hy hz
 have hd := deep_of (fits_deep hf)
 have hB' : B s = [c] := hB
 show Calls Tryd.prog 26 #[.string s, .pointer (some ⟨g, 0, none⟩)] w (GPost [c] w)
 simp only [basic, Bool.or_eq_true, beq_iff_eq] at ho
 rcases ho with ((((((((((((h | h) | h) | h) | h) | h) | h) | h) | h) | h) | h) | h) | h) | h
 ·subst h; obtain rfl : s = ⟨#[121]⟩ := B_inj hB'; exact gs_y g x y z w hD hd
 ·subst h; obtain rfl : s = ⟨#[98]⟩ := B_inj hB'; exact gs_b g x y z w hD hd
 ·subst h; obtain rfl : s = ⟨#[110]⟩ := B_inj hB'; exact gs_n g x y z w hD hd
 ·subst h; obtain rfl : s = ⟨#[113]⟩ := B_inj hB'; exact gs_q g x y z w hD hd
 ·subst h; obtain rfl : s = ⟨#[105]⟩ := B_inj hB'; exact gs_i g x y z w hD hd
 ·subst h; obtain rfl : s = ⟨#[117]⟩ := B_inj hB'; exact gs_u g x y z w hD hd
 ·subst h; obtain rfl : s = ⟨#[120]⟩ := B_inj hB'; exact gs_x g x y z w hD hd
 ·subst h; obtain rfl : s = ⟨#[116]⟩ := B_inj hB'; exact gs_t g x y z w hD hd
 ·subst h; obtain rfl : s = ⟨#[100]⟩ := B_inj hB'; exact gs_d g x y z w hD hd
 ·subst h; obtain rfl : s = ⟨#[115]⟩ := B_inj hB'; exact gs_s g x y z w hD hd
 ·subst h; obtain rfl : s = ⟨#[111]⟩ := B_inj hB'; exact gs_o g x y z w hD hd
 ·subst h; obtain rfl : s = ⟨#[103]⟩ := B_inj hB'; exact gs_g g x y z w hD hd
 ·subst h; obtain rfl : s = ⟨#[104]⟩ := B_inj hB'; exact gs_h g x y z w hD hd
 ·subst h; obtain rfl : s = ⟨#[118]⟩ := B_inj hB'; exact gs_v g x y z w hD hd
def T26_57 : Bool × List (List Nat × List Nat) := (true, [([], []), ([0], [0]), ([], []), ([2], [2]), ([3], [3]), ([4, 1], [4]), ([5], [5]), ([6], [6]), ([7, 5], [7]), ([1, 8, 8], [1, 8]), ([9], [9]), ([], []), ([11, 9], [11]), ([], []), ([13], [13]), ([14], [14]), ([15, 12], [15]), ([16], [16]), ([17], [17]), ([18, 16], [18]), ([12, 19, 19], [12, 19]), ([10, 20], [10, 20]), ([21], [21]), ([22, 20, 0, 1, 2, 3, 4, 5, 6, 7, 8, 9, 10, 11, 12, 13, 14, 15, 16, 17, 18, 19, 20, 21, 22], [22])])
def B26_57 : List Nat := [0, 1, 0, 4, 12, 31, 63, 127, 255, 511, 1023, 0, 3071, 0, 8192, 24576, 64511, 130047, 261119, 523263, 1047551, 2097151, 4194303, 8388607]
theorem tab26_57 : rtab .any (opsOf Tryd.f26 57) = T26_57 := by kernel_rfl
theorem bits26_57 : waitsOk T26_57.2 B26_57 = true := by kernel_rfl

theorem key_ok (s : ByteArray) (c : UInt8) (l : List UInt8) (h : B s = c :: l) (hk : basic c = true) (h98 : c ≠ 98) (h103 : c ≠ 103) : dbus_isKeyType.f 9 s = some true := by
 have e : dbus_isKeyType.f 9 s = dbus_isKeyType.f 9 (mkb [c]) := by unfold dbus_isKeyType.f; rw [kind_first s c l h]
 rw [e]
 have H : ∀ n : Fin 256, basic (UInt8.ofNat n.val) = true → UInt8.ofNat n.val ≠ 98 → UInt8.ofNat n.val ≠ 103 → dbus_isKeyType.f 9 (mkb [UInt8.ofNat n.val]) = some true := by decide +kernel
 have := H ⟨c.toNat, c.toNat_lt⟩
 simp only [UInt8.ofNat_toNat] at this
 exact this hk h98 h103

set_option maxHeartbeats 4000000 in
set_option maxRecDepth 100000 in
theorem gs_dict (k : UInt8) (t : T) (hk : basic k = true) (h98 : k ≠ 98) (h103 : k ≠ 103) (ih : GS t) : GS (.d k t) := by
 intro s g x y z w hB hf hl hD hx hy hz
 have hB' : B s = 123 :: k :: gt t := hB
 have AD := Aside0.mk hD
 have hdp := fits_deep hf
 have HD := Aside0.mk (deep_of hdp)
 have hmf : ∀ (fn : Fn) (first cap : Array Value) (w : World), (Instr.makeFunc fn first cap).run Tryd.prog w = .ok (.func fn first cap) w := fun _ _ _ _ => rfl
 have hkd := Aside0.mk (kind_is s 123 _ hB')
 have HE := Aside0.mk (elem_map s _ _ hB')
 have HK := Aside0.mk (key_map s _ _ hB')
 have hBk : Aside0 (B (s.extract 1 2) = gt (.b k)) := ⟨by rw [B_extract, hB']; rfl⟩
 have HKO := Aside0.mk (key_ok (s.extract 1 2) k [] hBk.out hk h98 h103)
 have HKL := Aside0.mk (gs_letter k (by rw [hk]; rfl))
 have hB1 : Aside0 (B (s.extract 2 s.size) = gt t) := ⟨by rw [B_from, hB']; rfl⟩
 have hf1 : Aside0 (fits t (32 - (x + 1)) (32 - y) (32 - (z + 1)) = true) := ⟨by simp only [fits, Bool.and_eq_true] at hf; rw [show 32 - (x + 1) = 32 - x - 1 from by omega, show 32 - (z + 1) = 32 - z - 1 from by omega]; exact hf.2⟩
 have hfk : Aside0 (fits (.b k) (32 - (x + 1)) (32 - y) (32 - (z + 1)) = true) := ⟨fits_room t _ _ _ hf1.out⟩
 have hL := Aside0.mk hl
 have hlk : Aside0 ((txt (.b k)).length ≤ 255) := ⟨by simp [txt]⟩
 have hl1 : Aside0 ((txt t).length ≤ 255) := ⟨by simp only [txt, List.length_cons, List.length_append] at hl; omega⟩
 have IH := Aside0.mk ih
 have hsz : 0 < s.size := by have := size_pos hB'; omega
 have hne := ne_str (a := s) (by omega)
 clear hB hB' hf hl hD ih hsz hk h98 h103
 go_enter_defers Tryd.func26, Tryd.ntmps26
 go_wp2_with (first
  | (go_at_call 32; (with_reducible refine (valid_call g x y z _ (Dep.below AD.out (below_alloc (Below.refl _ _) _))).mono ?_); rintro e w' ⟨rfl, ⟨nd, rfl⟩⟩; rw [HD.out])
  | (go_at_call 34; (with_reducible refine (dbus_zzType_Kind.calls 9 _ _ _ hkd.out).mono ?_); rintro e w2 ⟨rfl, ⟨nd2, rfl⟩⟩)
  | (go_at_call 42; (with_reducible refine (dbus_zzType_Key.calls _ _ _ HK.out).mono ?_); rintro e w2 ⟨rfl, ⟨nd3, rfl⟩⟩)
  | (go_at_call 41; (with_reducible refine (dbus_isKeyType.calls 9 _ _ _ HKO.out).mono ?_); rintro e w2 ⟨rfl, ⟨nd4, rfl⟩⟩))
 refine start_ (n := 24) (S := fun w' => w'.cell? ⟨g, 0, none⟩ = some (.int .i64 x) ∧ w'.cell? ⟨g, 1, none⟩ = some (.int .i64 y) ∧ w'.cell? ⟨g, 2, none⟩ = some (.int .i64 z)) (ds := [23]) #[false, false, false, false, false, false, false, false, false, false, false, false, false, false, false, false, false, false, false, false, false, false, false, false] (by kernel_rfl) rfl rfl (Dep.below AD.out (by repeat (first | exact Below.refl _ _ | apply below_alloc | apply pw_below_drewN | apply below_drew1))) (fun hHeld => ?_); refine with_tabW tab26_57 bits26_57 (fun HT_ HW_ => ?_)
 refine pure_ (i := 0) (N := some 114) (v := ?_) (a' := ?_) #[true, false, false, false, false, false, false, false, false, false, false, false, false, false, false, false, false, false, false, false, false, false, false, false] rfl rfl (any_of HT_.out (by kernel_rfl)) (panic_put _ _ 114 (by decide) _) (Or.inl ⟨by rfl, ?_⟩) ?_ ?_
 rotate_left
 ·intro w_
  go_simp
  with_reducible rfl
 rotate_left
 ·simp only [Act.put, List.setIfInBounds_toArray, List.set_cons_zero, List.set_cons_succ, i64_w, i32_w]
  rfl
 refine pure_ (i := 2) (N := some 116) (v := ?_) (a' := ?_) #[true, false, true, false, false, false, false, false, false, false, false, false, false, false, false, false, false, false, false, false, false, false, false, false] rfl rfl (any_of HT_.out (by kernel_rfl)) (panic_put _ _ 116 (by decide) _) (Or.inl ⟨by rfl, ?_⟩) ?_ ?_
 rotate_left
 ·intro w_
  go_simp
  with_reducible rfl
 rotate_left
 ·simp only [Act.put, List.setIfInBounds_toArray, List.set_cons_zero, List.set_cons_succ, i64_w, i32_w]
  rfl
 refine pure_ (i := 3) (N := some 117) (v := ?_) (a' := ?_) #[true, false, true, true, false, false, false, false, false, false, false, false, false, false, false, false, false, false, false, false, false, false, false, false] rfl rfl (any_of HT_.out (by kernel_rfl)) (panic_put _ _ 117 (by decide) _) (Or.inl ⟨by rfl, ?_⟩) ?_ ?_
 rotate_left
 ·intro w_
  go_simp
  with_reducible rfl
 rotate_left
 ·simp only [Act.put, List.setIfInBounds_toArray, List.set_cons_zero, List.set_cons_succ, i64_w, i32_w]
  rfl
 refine pure_ (i := 11) (N := some 125) (v := ?_) (a' := ?_) #[true, false, true, true, false, false, false, false, false, false, false, true, false, false, false, false, false, false, false, false, false, false, false, false] rfl rfl (any_of HT_.out (by kernel_rfl)) (panic_put _ _ 125 (by decide) _) (Or.inl ⟨by rfl, ?_⟩) ?_ ?_
 rotate_left
 ·intro w_
  go_simp
  with_reducible rfl
 rotate_left
 ·simp only [Act.put, List.setIfInBounds_toArray, List.set_cons_zero, List.set_cons_succ, i64_w, i32_w]
  rfl
 refine pure_ (i := 13) (N := some 127) (v := ?_) (a' := ?_) #[true, false, true, true, false, false, false, false, false, false, false, true, false, true, false, false, false, false, false, false, false, false, false, false] rfl rfl (any_of HT_.out (by kernel_rfl)) (panic_put _ _ 127 (by decide) _) (Or.inl ⟨by rfl, ?_⟩) ?_ ?_
 rotate_left
 ·intro w_
  go_simp
  with_reducible rfl
 rotate_left
 ·simp only [Act.put, List.setIfInBounds_toArray, List.set_cons_zero, List.set_cons_succ, i64_w, i32_w]
  rfl
 refine pure_ (i := 14) (N := some 128) (v := ?_) (a' := ?_) #[true, false, true, true, false, false, false, false, false, false, false, true, false, true, true, false, false, false, false, false, false, false, false, false] rfl rfl (any_of HT_.out (by kernel_rfl)) (panic_put _ _ 128 (by decide) _) (Or.inl ⟨by rfl, ?_⟩) ?_ ?_
 rotate_left
 ·intro w_
  go_simp
  with_reducible rfl
 rotate_left
 ·simp only [Act.put, List.setIfInBounds_toArray, List.set_cons_zero, List.set_cons_succ, i64_w, i32_w]
  rfl
 refine take_ (i := 4) (N := some 118) (v := ?_) (a' := ?_) #[true, false, true, true, true, false, false, false, false, false, false, true, false, true, true, false, false, false, false, false, false, false, false, false] rfl rfl (take_ofW HT_.out HW_.out (by kernel_rfl)) (panic_put _ _ 118 (by decide) _) (Or.inl ⟨by rfl, ?_⟩) hHeld ?_ ?_
 rotate_left
 ·rintro w_ ⟨s0, s1, s2⟩
  go_simp
  with_reducible rfl
 rotate_left
 ·simp only [Act.put, List.setIfInBounds_toArray, List.set_cons_zero, List.set_cons_succ, i64_w, i32_w]
  rfl
 refine take_ (i := 15) (N := some 129) (v := ?_) (a' := ?_) #[true, false, true, true, true, false, false, false, false, false, false, true, false, true, true, true, false, false, false, false, false, false, false, false] rfl rfl (take_ofW HT_.out HW_.out (by kernel_rfl)) (panic_put _ _ 129 (by decide) _) (Or.inl ⟨by rfl, ?_⟩) hHeld ?_ ?_
 rotate_left
 ·rintro w_ ⟨s0, s1, s2⟩
  go_simp
  with_reducible rfl
 rotate_left
 ·simp only [Act.put, List.setIfInBounds_toArray, List.set_cons_zero, List.set_cons_succ, i64_w, i32_w]
  rfl
 refine one_ (i := 1) (N := some 115) #[true, true, true, true, true, false, false, false, false, false, false, true, false, true, true, true, false, false, false, false, false, false, false, false] rfl rfl (one_of HT_.out (by kernel_rfl)) (by decide) (fun K hK => ?_)
 refine goes_ Tryd.func42 (by kernel_rfl) rfl #[.string s] (by rfl) rfl rfl (by (try simp only [List.map_toArray, List.map_cons, List.map_nil]); first | done | rfl) ?_
 with_reducible refine (dbus_zzType_Key.calls _ _ _ HK.out).mono ?_
 rintro e w3 ⟨rfl, ⟨nd5, rfl⟩⟩
 refine ⟨_, rfl, ?_⟩
 refine hK.out _ _ (Dep.below AD.out (by repeat (first | exact Below.refl _ _ | apply below_alloc | apply pw_below_drewN | apply below_drew1))) (fun hHeld => ?_)
 clear hK K
 refine norm_ (a' := ?_) ?_ ?_
 rotate_left
 ·show Act.put _ (some 115) _ = _
  simp only [Act.put, List.setIfInBounds_toArray, List.set_cons_zero, List.set_cons_succ, i64_w, i32_w]
  rfl
 refine one_ (i := 5) (N := some 119) #[true, true, true, true, true, true, false, false, false, false, false, true, false, true, true, true, false, false, false, false, false, false, false, false] rfl rfl (one_of HT_.out (by kernel_rfl)) (by decide) (fun K hK => ?_)
 refine goes_ Tryd.func40 (by kernel_rfl) rfl #[.agg #[.int .i64 x, .int .i64 y, .int .i64 z]] (by rfl) rfl rfl (by (try simp only [List.map_toArray, List.map_cons, List.map_nil]); first | done | rfl) ?_
 with_reducible refine (arr_call x y z _ (by omega) (by omega)).mono ?_
 rintro e w2 ⟨rfl, rfl⟩
 refine ⟨_, rfl, ?_⟩
 refine hK.out _ _ (Dep.below AD.out (by repeat (first | exact Below.refl _ _ | apply below_alloc | apply pw_below_drewN | apply below_drew1))) (fun hHeld => ?_)
 clear hK K
 refine norm_ (a' := ?_) ?_ ?_
 rotate_left
 ·show Act.put _ (some 119) _ = _
  simp only [Act.put, List.setIfInBounds_toArray, List.set_cons_zero, List.set_cons_succ, i64_w, i32_w]
  rfl
 refine pure_ (i := 6) (N := some 120) (v := ?_) (a' := ?_) #[true, true, true, true, true, true, true, false, false, false, false, true, false, true, true, true, false, false, false, false, false, false, false, false] rfl rfl (any_of HT_.out (by kernel_rfl)) (panic_put _ _ 120 (by decide) _) (Or.inl ⟨by rfl, ?_⟩) ?_ ?_
 rotate_left
 ·intro w_
  go_simp
  with_reducible rfl
 rotate_left
 ·simp only [Act.put, List.setIfInBounds_toArray, List.set_cons_zero, List.set_cons_succ, i64_w, i32_w]
  rfl
 refine one_ (i := 7) (N := some 121) #[true, true, true, true, true, true, true, true, false, false, false, true, false, true, true, true, false, false, false, false, false, false, false, false] rfl rfl (one_of HT_.out (by kernel_rfl)) (by decide) (fun K hK => ?_)
 refine load_ (.agg #[.int .i64 (x + 1), .int .i64 y, .int .i64 z]) (by rfl) rfl (by go_simp) ?_
 refine hK.out _ _ (Dep.below AD.out (by repeat (first | exact Below.refl _ _ | apply below_alloc | apply pw_below_drewN | apply below_drew1))) (fun hHeld => ?_)
 clear hK K
 refine norm_ (a' := ?_) ?_ ?_
 rotate_left
 ·show Act.put _ (some 121) _ = _
  simp only [Act.put, List.setIfInBounds_toArray, List.set_cons_zero, List.set_cons_succ, i64_w, i32_w]
  rfl
 refine one_ (i := 8) (N := some 122) #[true, true, true, true, true, true, true, true, true, false, false, true, false, true, true, true, false, false, false, false, false, false, false, false] rfl rfl (one_of HT_.out (by kernel_rfl)) (by decide) (fun K hK => ?_)
 refine goes_ Tryd.func43 (by kernel_rfl) rfl #[.agg #[.int .i64 (x + 1), .int .i64 y, .int .i64 z]] (by rfl) rfl rfl (by (try simp only [List.map_toArray, List.map_cons, List.map_nil]); first | done | rfl) ?_
 with_reducible refine (ent_call (x + 1) y z _ (by omega) (by omega)).mono ?_
 rintro e w2 ⟨rfl, rfl⟩
 refine ⟨_, rfl, ?_⟩
 refine hK.out _ _ (Dep.below AD.out (by repeat (first | exact Below.refl _ _ | apply below_alloc | apply pw_below_drewN | apply below_drew1))) (fun hHeld => ?_)
 clear hK K
 refine norm_ (a' := ?_) ?_ ?_
 rotate_left
 ·show Act.put _ (some 122) _ = _
  simp only [Act.put, List.setIfInBounds_toArray, List.set_cons_zero, List.set_cons_succ, i64_w, i32_w]
  rfl
 refine one_ (i := 9) (N := some 123) #[true, true, true, true, true, true, true, true, true, true, false, true, false, true, true, true, false, false, false, false, false, false, false, false] rfl rfl (one_of HT_.out (by kernel_rfl)) (by decide) (fun K hK => ?_)
 refine goes_ Tryd.func26 (by kernel_rfl) rfl #[.string (s.extract 1 2), .pointer (some ⟨_, 0, none⟩)] (by rfl) rfl rfl (by (try simp only [List.map_toArray, List.map_cons, List.map_nil]); first | done | rfl) ?_
 with_reducible refine (GS.go HKL.out _ _ (x + 1) y (z + 1) _ hBk.out hfk.out hlk.out (Dep.new _ _ _ _) (by omega) (by omega) (by omega)).mono ?_
 rintro e w9 ⟨r9, rfl, hr9, hb9⟩
 have HR9 := Aside0.mk hr9
 have HB9 := Aside0.mk (below_step (w := w) (by repeat (first | exact Below.refl _ _ | apply below_alloc | apply pw_below_drewN | apply below_drew1)) hb9)
 have BK9 : Aside0 (w9.heap[w.heap.size]? = some (.cells #[.string ⟨#[]⟩] 9 (0, 0))) := ⟨blk_below (by repeat (first | exact blk_new w _ | refine blk_alloc ?_ _ | refine blk_drewN ?_ _ | refine blk_drew ?_)) hb9⟩
 have hr9s : r9.size = 1 := (by rw [← B_length, hr9]; rfl)
 have hq9 : (9223372036854775807 < 2 + r9.size) = False := eq_false (by omega)
 have hq9' : ((⟨#[97, 123]⟩ : ByteArray) ++ r9).size = 3 := (by rw [ByteArray.size_append, hr9s]; rfl)
 clear hr9 hb9
 refine ⟨_, rfl, ?_⟩
 refine hK.out _ _ (Dep.below AD.out HB9.out) (fun hHeld => ?_)
 clear hK K
 refine norm_ (a' := ?_) ?_ ?_
 rotate_left
 ·show Act.put _ (some 123) _ = _
  simp only [Act.put, List.setIfInBounds_toArray, List.set_cons_zero, List.set_cons_succ, i64_w, i32_w]
  rfl
 refine pure_ (i := 10) (N := some 124) (v := ?_) (a' := ?_) #[true, true, true, true, true, true, true, true, true, true, true, true, false, true, true, true, false, false, false, false, false, false, false, false] rfl rfl (any_of HT_.out (by kernel_rfl)) (panic_put _ _ 124 (by decide) _) (Or.inl ⟨by rfl, ?_⟩) ?_ ?_
 rotate_left
 ·intro w_
  go_simp
  with_reducible rfl
 rotate_left
 ·simp only [Act.put, List.setIfInBounds_toArray, List.set_cons_zero, List.set_cons_succ, i64_w, i32_w]
  rfl
 refine one_ (i := 12) (N := some 126) #[true, true, true, true, true, true, true, true, true, true, true, true, true, true, true, true, false, false, false, false, false, false, false, false] rfl rfl (one_of HT_.out (by kernel_rfl)) (by decide) (fun K hK => ?_)
 refine goes_ Tryd.func35 (by kernel_rfl) rfl #[.string s] (by rfl) rfl rfl (by (try simp only [List.map_toArray, List.map_cons, List.map_nil]); first | done | rfl) ?_
 with_reducible refine (dbus_zzType_Elem.calls 9 _ _ _ HE.out).mono ?_
 rintro e w3 ⟨rfl, ⟨nd6, rfl⟩⟩
 refine ⟨_, rfl, ?_⟩
 refine hK.out _ _ (Dep.below AD.out (by repeat (first | exact Below.refl _ _ | exact HB9.out | apply below_alloc | apply pw_below_drewN | apply below_drew1))) (fun hHeld => ?_)
 clear hK K
 refine norm_ (a' := ?_) ?_ ?_
 rotate_left
 ·show Act.put _ (some 126) _ = _
  simp only [Act.put, List.setIfInBounds_toArray, List.set_cons_zero, List.set_cons_succ, i64_w, i32_w]
  rfl
 refine one_ (i := 16) (N := some 130) #[true, true, true, true, true, true, true, true, true, true, true, true, true, true, true, true, true, false, false, false, false, false, false, false] rfl rfl (one_of HT_.out (by kernel_rfl)) (by decide) (fun K hK => ?_)
 refine goes_ Tryd.func40 (by kernel_rfl) rfl #[.agg #[.int .i64 x, .int .i64 y, .int .i64 z]] (by rfl) rfl rfl (by (try simp only [List.map_toArray, List.map_cons, List.map_nil]); first | done | rfl) ?_
 with_reducible refine (arr_call x y z _ (by omega) (by omega)).mono ?_
 rintro e w2 ⟨rfl, rfl⟩
 obtain ⟨n0, n1, n2⟩ : Dep ((w9.drewN nd6).alloc (.cells #[.int .i64 (x + 1), .int .i64 y, .int .i64 z] 62)) w9.heap.size (x + 1) y z := Dep.new (w9.drewN nd6) (x + 1) y z
 refine ⟨_, rfl, ?_⟩
 refine hK.out _ _ (Dep.below AD.out (by repeat (first | exact Below.refl _ _ | exact HB9.out | apply below_alloc | apply pw_below_drewN | apply below_drew1))) (fun hHeld => ?_)
 clear hK K
 refine norm_ (a' := ?_) ?_ ?_
 rotate_left
 ·show Act.put _ (some 130) _ = _
  simp only [Act.put, List.setIfInBounds_toArray, List.set_cons_zero, List.set_cons_succ, i64_w, i32_w]
  rfl
 refine pure_ (i := 17) (N := some 131) (v := ?_) (a' := ?_) #[true, true, true, true, true, true, true, true, true, true, true, true, true, true, true, true, true, true, false, false, false, false, false, false] rfl rfl (any_of HT_.out (by kernel_rfl)) (panic_put _ _ 131 (by decide) _) (Or.inl ⟨by rfl, ?_⟩) ?_ ?_
 rotate_left
 ·intro w_
  go_simp
  with_reducible rfl
 rotate_left
 ·simp only [Act.put, List.setIfInBounds_toArray, List.set_cons_zero, List.set_cons_succ, i64_w, i32_w]
  rfl
 refine one_ (i := 18) (N := some 132) #[true, true, true, true, true, true, true, true, true, true, true, true, true, true, true, true, true, true, true, false, false, false, false, false] rfl rfl (one_of HT_.out (by kernel_rfl)) (by decide) (fun K hK => ?_)
 refine load_ (.agg #[.int .i64 (x + 1), .int .i64 y, .int .i64 z]) (by rfl) rfl (by go_simp) ?_
 refine hK.out _ _ (Dep.below AD.out (by repeat (first | exact Below.refl _ _ | exact HB9.out | apply below_alloc | apply pw_below_drewN | apply below_drew1))) (fun hHeld => ?_)
 clear hK K
 refine norm_ (a' := ?_) ?_ ?_
 rotate_left
 ·show Act.put _ (some 132) _ = _
  simp only [Act.put, List.setIfInBounds_toArray, List.set_cons_zero, List.set_cons_succ, i64_w, i32_w]
  rfl
 refine one_ (i := 19) (N := some 133) #[true, true, true, true, true, true, true, true, true, true, true, true, true, true, true, true, true, true, true, true, false, false, false, false] rfl rfl (one_of HT_.out (by kernel_rfl)) (by decide) (fun K hK => ?_)
 refine goes_ Tryd.func43 (by kernel_rfl) rfl #[.agg #[.int .i64 (x + 1), .int .i64 y, .int .i64 z]] (by rfl) rfl rfl (by (try simp only [List.map_toArray, List.map_cons, List.map_nil]); first | done | rfl) ?_
 with_reducible refine (ent_call (x + 1) y z _ (by omega) (by omega)).mono ?_
 rintro e w2 ⟨rfl, rfl⟩
 refine ⟨_, rfl, ?_⟩
 refine hK.out _ _ (Dep.below AD.out (by repeat (first | exact Below.refl _ _ | exact HB9.out | apply below_alloc | apply pw_below_drewN | apply below_drew1))) (fun hHeld => ?_)
 clear hK K
 refine norm_ (a' := ?_) ?_ ?_
 rotate_left
 ·show Act.put _ (some 133) _ = _
  simp only [Act.put, List.setIfInBounds_toArray, List.set_cons_zero, List.set_cons_succ, i64_w, i32_w]
  rfl
 refine one_ (i := 20) (N := some 134) #[true, true, true, true, true, true, true, true, true, true, true, true, true, true, true, true, true, true, true, true, true, false, false, false] rfl rfl (one_of HT_.out (by kernel_rfl)) (by decide) (fun K hK => ?_)
 refine goes_ Tryd.func26 (by kernel_rfl) rfl #[.string (s.extract 2 s.size), .pointer (some ⟨_, 0, none⟩)] (by rfl) rfl rfl (by (try simp only [List.map_toArray, List.map_cons, List.map_nil]); first | done | rfl) ?_
 with_reducible refine (GS.go IH.out _ _ (x + 1) y (z + 1) _ hB1.out hf1.out hl1.out (Dep.new _ _ _ _) (by omega) (by omega) (by omega)).mono ?_
 rintro e w3 ⟨r3, rfl, hr3, hb3⟩
 have HR3 := Aside0.mk hr3
 have HB3 := Aside0.mk (below_step (w := w) (by repeat (first | exact Below.refl _ _ | exact HB9.out | apply below_alloc | apply pw_below_drewN | apply below_drew1)) hb3)
 have BKS : Aside0 (w3.heap[w.heap.size]? = some (.cells #[.string ⟨#[]⟩] 9 (0, 0))) := ⟨blk_below (by repeat (first | exact blk_new w _ | exact BK9.out | refine blk_alloc ?_ _ | refine blk_drewN ?_ _ | refine blk_drew ?_)) hb3⟩
 have hr3s : r3.size ≤ 251 := (by rw [← B_length, hr3]; have := hL.out; simp only [txt, List.length_cons, List.length_append, List.length_nil] at this; omega)
 have hq3 : (9223372036854775807 < 3 + r3.size) = False := eq_false (by omega)
 have hq4 : (9223372036854775807 < 3 + r3.size + 1) = False := eq_false (by omega)
 clear hr3 hb3
 refine ⟨_, rfl, ?_⟩
 refine hK.out _ _ (Dep.below AD.out HB3.out) (fun hHeld => ?_)
 clear hK K
 refine norm_ (a' := ?_) ?_ ?_
 rotate_left
 ·show Act.put _ (some 134) _ = _
  simp only [Act.put, List.setIfInBounds_toArray, List.set_cons_zero, List.set_cons_succ, i64_w, i32_w]
  rfl
 refine pure_ (i := 21) (N := some 135) (v := ?_) (a' := ?_) #[true, true, true, true, true, true, true, true, true, true, true, true, true, true, true, true, true, true, true, true, true, true, false, false] rfl rfl (any_of HT_.out (by kernel_rfl)) (panic_put _ _ 135 (by decide) _) (Or.inl ⟨by rfl, ?_⟩) ?_ ?_
 rotate_left
 ·intro w_
  go_simp
  with_reducible rfl
 rotate_left
 ·simp only [Act.put, List.setIfInBounds_toArray, List.set_cons_zero, List.set_cons_succ, i64_w, i32_w]
  rfl
 refine pure_ (i := 22) (N := some 136) (v := ?_) (a' := ?_) #[true, true, true, true, true, true, true, true, true, true, true, true, true, true, true, true, true, true, true, true, true, true, true, false] rfl rfl (any_of HT_.out (by kernel_rfl)) (panic_put _ _ 136 (by decide) _) (Or.inl ⟨by rfl, ?_⟩) ?_ ?_
 rotate_left
 ·intro w_
  go_simp
  with_reducible rfl
 rotate_left
 ·simp only [Act.put, List.setIfInBounds_toArray, List.set_cons_zero, List.set_cons_succ, i64_w, i32_w]
  rfl
 refine last_ (i := 23) (N := none) #[true, true, true, true, true, true, true, true, true, true, true, true, true, true, true, true, true, true, true, true, true, true, true, true] rfl rfl (one_of HT_.out (by kernel_rfl)) (by decide) (fun K hK => ?_)
 have hs27 := (blk_cell BKS.out 0).trans rfl
 have hfs27 := blk_frozen BKS.out 0
 refine skip_ (w1 := ?_) (by rfl) rfl ?_ ?_
 rotate_left
 ·go_simp
  rfl
 refine hK.out _ _ ?_
 clear hK K
 refine done_ (done_of HT_.out (by kernel_rfl)) ?_
 go_wp2
 refine leaves_cons (f := 33) (args := #[.pointer (some ⟨w.heap.size, 0, none⟩)]) (by simp) (by simp [go_sem]) ?_
 have hfin := (blk_cell (blk_set BKS.out 0 (.string (((⟨#[97, 123]⟩ : ByteArray) ++ r9) ++ r3 ++ ⟨#[125]⟩))) 0).trans rfl
 have hbel := below_set (v := .string (((⟨#[97, 123]⟩ : ByteArray) ++ r9) ++ r3 ++ ⟨#[125]⟩)) (j := 0) HB3.out (Nat.le_refl _)
 generalize (w3.setCell ⟨w.heap.size, 0, none⟩ (.string (((⟨#[97, 123]⟩ : ByteArray) ++ r9) ++ r3 ++ ⟨#[125]⟩))) = wf at hfin hbel ⊢
 refine (len_ok ⟨w.heap.size, 0, none⟩ _ _ hfin (by rw [ByteArray.size_append, ByteArray.size_append, hq9']; show 3 + r3.size + 1 ≤ 255; omega)).mono ?_
 rintro e u' w'' ⟨rfl, rfl, rfl⟩
 simp [Leaves, settle, results, Tryd.results26, go_sem, hfin]
 exact ⟨_, rfl, by rw [B_append, B_append, B_append, HR9.out, HR3.out]; show (([97, 123] ++ [k]) ++ txt t) ++ [125] = 97 :: 123 :: k :: (txt t ++ [125]); simp, hbel⟩
end Go.Proofs.YtoaehanfknjngaaDoor.Gs
