import Derived.Test.Qxb6613095aDoorClean
import Derived.BigQuiet
import Derived.Lib.QuietBelow
namespace Go.Proofs.Qxb6613095aDoor
open Go.RowKit Go.Sort

theorem route_other (r : Nat) (m pat : ByteArray) (w : World) (hm : (m.toList == [67, 79, 78, 78, 69, 67, 84]) = false)
    (h0 : w.cell? ⟨r, 0, none⟩ = some (.string m)) (h2 : w.cell? ⟨r, 21, none⟩ = some (.string pat)) :
    Calls Tryd.prog 16 #[.pointer (some ⟨r, 0, none⟩)] w fun e w' => e = .returned (.string pat) ∧ Below w.heap.size w w' := by
  go_enter Tryd.func16, Tryd.ntmps16
  go_wp2
  go_quiet (fail)
  go_wp2
  go_ret
  exact ⟨rfl, below_drewN (Below.refl _ _) _⟩

theorem Tab.below {T : Nat → Int} {w w' : World} (h : Tab T w) (hb : Below w.heap.size w w') (h0 : 0 < w.heap.size) : Tab T w' :=
  fun i hi => (hb.cell (p := ⟨0, i, none⟩) h0).trans (h i hi)

set_option maxHeartbeats 1000000 in
theorem route_slash (T : Nat → Int) (r u : Nat) (pat p : ByteArray) (w : World) (hT : Tab T w) (h47 : se T 47 = false) (hs : p.size ≤ 1000000) (hz : 0 < w.heap.size)
    (c0 : w.cell? ⟨r, 0, none⟩ = some (.string ⟨#[67, 79, 78, 78, 69, 67, 84]⟩)) (c1 : w.cell? ⟨r, 1, none⟩ = some (.pointer (some ⟨u, 0, none⟩))) (c2 : w.cell? ⟨r, 21, none⟩ = some (.string pat))
    (c3 : w.cell? ⟨u, 4, none⟩ = some (.string p)) (c4 : w.cell? ⟨u, 7, none⟩ = some (.string ⟨#[]⟩)) (hp : endsSlash p.data.toList = true) :
    Calls Tryd.prog 16 #[.pointer (some ⟨r, 0, none⟩)] w fun e w' => e = .returned (.string pat) ∧ Below w.heap.size w w' := by
  have k0 := cell_regrown c0
  have k1 := cell_regrown c1
  have k2 := cell_regrown c2
  have k3 := cell_regrown c3
  have hq1 := escP_size T p
  have hq2 := (escP_ends T h47 p).trans hp
  have cE : ∀ d os, Calls Tryd.prog 22 #[.pointer (some ⟨u, 0, none⟩)] (grow (redrawn w d) os) fun e w'' => e = .returned (.string (escP T p)) ∧ ∃ p : Regrown, w'' = grow (redrawn w p.d) p.os :=
    fun d os => Calls.regrown_of (escaped_any T u p _ (hT.below (below_regrown w d os) hz) h47 hs (Nat.lt_of_lt_of_le hz (below_regrown w d os).size) (cell_regrown c3 d os) (cell_regrown c4 d os))
  have cS : ∀ d os, Calls Tryd.prog 21 #[.string (escP T p), .string ⟨#[47]⟩] (grow (redrawn w d) os) fun e w'' => e = .returned (.bool true) ∧ ∃ p : Regrown, w'' = grow (redrawn w p.d) p.os :=
    fun d os => Calls.regrown_of ((suffix_at _ true _ (by unfold maxLen; omega) hq2).mono fun _ _ h => ⟨h.1, by rw [← h.2]; exact Below.refl _ _⟩)
  clear hT c0 c1 c2 c3 c4 hp hq2
  generalize escP T p = q at cE cS hq1
  go_enter Tryd.func16, Tryd.ntmps16
  go_wp2
  refine wp_region_quiet_below (by kernel_rfl) (by kernel_rfl) ?_
  repeat (first | go_big_quiet_step (first | exact cE _ _ | exact cS _ _) | quiet_step (first | exact cE _ _ | exact cS _ _))
  refine wpQuiet_nil ?_
  intro _ hw'
  obtain ⟨⟨dq, osq⟩, hw''⟩ := hw'
  subst hw''
  go_wp2
  go_ret
  exact ⟨rfl, below_regrown w dq osq⟩

theorem clP_size (p : ByteArray) : (clP p).size ≤ p.size + 4 := by
  have h := J_size p
  unfold clP
  split
  · rw [ByteArray.size_append]
    have : (⟨#[47]⟩ : ByteArray).size = 1 := rfl
    omega
  · omega

set_option maxHeartbeats 1000000 in
theorem route_plain (T : Nat → Int) (r u : Nat) (pat p : ByteArray) (b : Bool) (w : World) (hT : Tab T w) (h47 : se T 47 = false) (hs : p.size ≤ 1000000) (hz : 0 < w.heap.size)
    (c0 : w.cell? ⟨r, 0, none⟩ = some (.string ⟨#[67, 79, 78, 78, 69, 67, 84]⟩)) (c1 : w.cell? ⟨r, 1, none⟩ = some (.pointer (some ⟨u, 0, none⟩))) (c2 : w.cell? ⟨r, 21, none⟩ = some (.string pat))
    (c3 : w.cell? ⟨u, 4, none⟩ = some (.string p)) (c4 : w.cell? ⟨u, 7, none⟩ = some (.string ⟨#[]⟩)) (hp : endsSlash p.data.toList = false) (hb : (pat.toList == (clP p ++ ⟨#[47]⟩).toList) = b) :
    Calls Tryd.prog 16 #[.pointer (some ⟨r, 0, none⟩)] w fun e w' => e = .returned (.string (if b = true then ⟨#[]⟩ else pat)) ∧ Below w.heap.size w w' := by
  have k0 := cell_regrown c0
  have k1 := cell_regrown c1
  have k2 := cell_regrown c2
  have k3 := cell_regrown c3
  have hq1 := escP_size T p
  have hq2 := (escP_ends T h47 p).trans hp
  have hcl := clP_size p
  have cE : ∀ d os, Calls Tryd.prog 22 #[.pointer (some ⟨u, 0, none⟩)] (grow (redrawn w d) os) fun e w'' => e = .returned (.string (escP T p)) ∧ ∃ p : Regrown, w'' = grow (redrawn w p.d) p.os :=
    fun d os => Calls.regrown_of (escaped_any T u p _ (hT.below (below_regrown w d os) hz) h47 hs (Nat.lt_of_lt_of_le hz (below_regrown w d os).size) (cell_regrown c3 d os) (cell_regrown c4 d os))
  have cS : ∀ d os, Calls Tryd.prog 21 #[.string (escP T p), .string ⟨#[47]⟩] (grow (redrawn w d) os) fun e w'' => e = .returned (.bool false) ∧ ∃ p : Regrown, w'' = grow (redrawn w p.d) p.os :=
    fun d os => Calls.regrown_of ((suffix_at _ false _ (by unfold maxLen; omega) hq2).mono fun _ _ h => ⟨h.1, by rw [← h.2]; exact Below.refl _ _⟩)
  have cC : ∀ d os, Calls Tryd.prog 23 #[.string p] (grow (redrawn w d) os) fun e w'' => e = .returned (.string (clP p)) ∧ ∃ p : Regrown, w'' = grow (redrawn w p.d) p.os :=
    fun d os => Calls.regrown_of (clean_any p _ hs)
  have hsum : ¬ 9223372036854775807 < (clP p).size + 1 := by omega
  clear hT c0 c1 c2 c3 c4 hp hq2
  generalize escP T p = q at cE cS hq1
  generalize clP p = cl at cC hb hcl hsum
  cases b
  all_goals
    go_enter Tryd.func16, Tryd.ntmps16
    go_wp2
    refine wp_region_quiet_below (by kernel_rfl) (by kernel_rfl) ?_
    repeat (first | go_big_quiet_step (first | exact cE _ _ | exact cS _ _ | exact cC _ _) | quiet_step (first | exact cE _ _ | exact cS _ _ | exact cC _ _))
    refine wpQuiet_nil ?_
    intro _ hw'
    obtain ⟨⟨dq, osq⟩, hw''⟩ := hw'
    subst hw''
    go_wp2
    go_ret
    exact ⟨rfl, below_regrown w dq osq⟩

/-- What routeOf gives. -/
def RT (m p pat : ByteArray) : ByteArray := if ((m.toList == [67, 79, 78, 78, 69, 67, 84]) && (!endsSlash p.data.toList && (pat.toList == (clP p ++ ⟨#[47]⟩).toList))) = true then ⟨#[]⟩ else pat

theorem route_any (T : Nat → Int) (r u : Nat) (m pat p : ByteArray) (w : World) (hT : Tab T w) (h47 : se T 47 = false) (hs : p.size ≤ 1000000) (hz : 0 < w.heap.size)
    (c0 : w.cell? ⟨r, 0, none⟩ = some (.string m)) (c1 : w.cell? ⟨r, 1, none⟩ = some (.pointer (some ⟨u, 0, none⟩))) (c2 : w.cell? ⟨r, 21, none⟩ = some (.string pat))
    (c3 : w.cell? ⟨u, 4, none⟩ = some (.string p)) (c4 : w.cell? ⟨u, 7, none⟩ = some (.string ⟨#[]⟩)) :
    Calls Tryd.prog 16 #[.pointer (some ⟨r, 0, none⟩)] w fun e w' => e = .returned (.string (RT m p pat)) ∧ Below w.heap.size w w' := by
  unfold RT
  cases hm : (m.toList == [67, 79, 78, 78, 69, 67, 84]) with
  | false => exact route_other r m pat w hm c0 c2
  | true =>
    have hm' : m = ⟨#[67, 79, 78, 78, 69, 67, 84]⟩ := by
      rw [Lib.toList_data] at hm
      obtain ⟨⟨l⟩⟩ := m
      have : l = [67, 79, 78, 78, 69, 67, 84] := by simpa using hm
      rw [this]
    subst hm'
    cases hp : endsSlash p.data.toList with
    | true => exact route_slash T r u pat p w hT h47 hs hz c0 c1 c2 c3 c4 hp
    | false => exact route_plain T r u pat p _ w hT h47 hs hz c0 c1 c2 c3 c4 hp rfl

theorem cells_new (w : World) (X Y : Array Value) (tx ty : TypeId) (o : Nat) : ((w.alloc (.cells X tx)).alloc (.cells Y ty)).cell? ⟨w.heap.size + 1, o, none⟩ = Y[o]? := by
  have := World.cell?_alloc_mark (w.alloc (.cells X tx)) Y ty (0, 0) o
  rw [World.size_alloc] at this
  exact this

theorem cells_old (w : World) (X Y : Array Value) (tx ty : TypeId) (o : Nat) : ((w.alloc (.cells X tx)).alloc (.cells Y ty)).cell? ⟨w.heap.size, o, none⟩ = X[o]? := by
  rw [World.cell?_alloc_lt (w.alloc (.cells X tx)) _ ⟨w.heap.size, o, none⟩ (by simp)]
  exact World.cell?_alloc_mark w X tx (0, 0) o

theorem zzroute_any (T : Nat → Int) (m pat p : ByteArray) (w : World) (hT : Tab T w) (h47 : se T 47 = false) (hs : p.size ≤ 1000000) (hz : 0 < w.heap.size) :
    Calls Tryd.prog 7 #[.string m, .string p, .string pat] w fun e w' => e = .returned (.string (RT m p pat)) ∧ Below w.heap.size w w' := by
  have HT : Hid (Tab T w) := hT
  clear hT
  go_enter Tryd.func7, Tryd.ntmps7
  go_wp2_with fail
  refine (route_any T (w.heap.size + 1) w.heap.size m pat p _ ?hT h47 hs ?hz ?c0 ?c1 ?c2 ?c3 ?c4).mono ?_
  case hT => exact HT.out.below (((Below.refl _ _).alloc (Nat.le_refl _) _).alloc (by simp) _) hz
  case hz => simp
  case c0 => exact cells_new _ _ _ _ _ _
  case c1 => exact cells_new _ _ _ _ _ _
  case c2 => exact cells_new _ _ _ _ _ _
  case c3 => exact cells_old _ _ _ _ _ _
  case c4 => exact cells_old _ _ _ _ _ _
  rintro e w1 ⟨rfl, b1⟩
  have b1' : Below w.heap.size w w1 := (((Below.refl _ _).alloc (Nat.le_refl _) _).alloc (by simp) _).trans (b1.mono (by simp; omega))
  clear b1
  go_wp2
  go_ret
  exact ⟨rfl, b1'⟩
end Go.Proofs.Qxb6613095aDoor
