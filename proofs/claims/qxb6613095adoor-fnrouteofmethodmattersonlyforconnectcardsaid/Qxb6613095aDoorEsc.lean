import Derived.Test.Qxb6613095aDoorWalks
namespace Go.Proofs.Qxb6613095aDoor
open Go.RowKit

/-- The bytes bs lie at the head of block g. -/
def BytesAt (w : World) (g : Nat) (bs : List UInt8) : Prop := ∀ j, j < bs.length → w.cell? ⟨g, j, none⟩ = some (.int .u8 ((bs.getD j 0).toNat : Int))

/-- Block g has n cells that may be written; the first of them hold bs. -/
def RowAt (w : World) (g n : Nat) (bs : List UInt8) : Prop := (∀ i, i < n → ∃ u, w.cell? ⟨g, i, none⟩ = some u) ∧ (∀ i, i < n → w.frozen? ⟨g, i, none⟩ = false) ∧ BytesAt w g bs

theorem RowAt.put {w : World} {g n : Nat} {bs : List UInt8} (h : RowAt w g n bs) (hn : bs.length < n) (b : UInt8) : RowAt (w.setCell ⟨g, bs.length, none⟩ (.int .u8 (b.toNat : Int))) g n (bs ++ [b]) := by
  obtain ⟨h1, h2, h3⟩ := h
  have hother : ∀ i, i ≠ bs.length → (w.setCell ⟨g, bs.length, none⟩ (.int .u8 (b.toNat : Int))).cell? ⟨g, i, none⟩ = w.cell? ⟨g, i, none⟩ := fun i hi => by
    apply World.cell?_setCell_other
    intro e
    simp only [Addr.mk.injEq] at e
    exact hi e.2.1.symm
  obtain ⟨u0, hu0⟩ := h1 bs.length hn
  have hsame := World.cell?_setCell_same w ⟨g, bs.length, none⟩ (.int .u8 (b.toNat : Int)) hu0
  refine ⟨fun i hi => ?_, fun i hi => ?_, fun i hi => ?_⟩
  · by_cases e : i = bs.length
    · subst e; exact ⟨_, hsame⟩
    · rw [hother i e]; exact h1 i hi
  · rw [World.frozen?_setCell]; exact h2 i hi
  · by_cases e : i = bs.length
    · subst e
      rw [hsame]
      simp
    · rw [hother i e, h3 i (by simp at hi; omega)]
      have : i < bs.length := by simp at hi; omega
      simp [List.getD, List.getElem?_append_left this]

theorem far_cell (w : World) (p i b j : Nat) (v : Value) (h : p ≠ b) : (w.setCell ⟨p, i, none⟩ v).cell? ⟨b, j, none⟩ = w.cell? ⟨b, j, none⟩ := by
  apply World.cell?_setCell_other
  intro e
  simp only [Addr.mk.injEq] at e
  exact h e.1

/-- A new row of a string's bytes, as '[]byte(s)' lays it. -/
theorem laid_bytes (w : World) (s : ByteArray) (cap : Nat) (mk : Nat × Nat) : BytesAt (w.alloc (.cells (bytesRow s cap) 5 mk)) w.heap.size s.data.toList := by
  intro j hj
  have hj' : j < s.data.size := by simpa using hj
  have := World.cell?_alloc_mark w (bytesRow s cap) 5 mk j
  rw [bytesRow_at s cap j hj'] at this
  have e : s.data.toList.getD j 0 = s.data[j] := by rw [List.getD_eq_getElem?_getD, List.getElem?_eq_getElem hj]; simp
  rw [e]
  exact this

theorem countP_snoc (T : Nat → Int) (l : List UInt8) (k : Nat) (hk : k < l.length) : (l.take (k + 1)).countP (se T) = (l.take k).countP (se T) + if se T (l.getD k 0) = true then 1 else 0 := by
  rw [List.take_succ_eq_append_getElem hk, List.countP_append]
  have : l.getD k 0 = l[k] := by rw [List.getD_eq_getElem?_getD, List.getElem?_eq_getElem hk]; rfl
  rw [this, List.countP_singleton]

theorem countP_take_le (T : Nat → Int) (l : List UInt8) (k : Nat) : (l.take k).countP (se T) ≤ k := by
  have h1 := List.countP_le_length (p := se T) (l := l.take k)
  have h2 := List.length_take_le k l
  omega

theorem info5 : (Tryd.prog.info? 5).map (fun i => (i.zero, i.size, i.bytes)) = some (some (.int .u8 0), 1, 1) := by kernel_rfl

theorem BytesAt.below {B : Nat} {w w' : World} {g : Nat} {bs : List UInt8} (h : BytesAt w g bs) (hb : Below B w w') (hg : g < B) : BytesAt w' g bs :=
  fun j hj => (hb.cell (p := ⟨g, j, none⟩) hg).trans (h j hj)

theorem RowAt.below {B : Nat} {w w' : World} {g n : Nat} {bs : List UInt8} (h : RowAt w g n bs) (hb : Below B w w') (hg : g < B) : RowAt w' g n bs :=
  ⟨fun i hi => by rw [hb.cell (p := ⟨g, i, none⟩) hg]; exact h.1 i hi, fun i hi => by rw [hb.frozen (p := ⟨g, i, none⟩) hg]; exact h.2.1 i hi, h.2.2.below hb hg⟩

/-- A new array, not yet written. -/
theorem row_new (w : World) (X : Array Value) (t : TypeId) (n : Nat) (h : n ≤ X.size) : RowAt (w.alloc (.cells X t)) w.heap.size n [] := by
  refine ⟨fun i hi => ?_, fun i _ => ?_, fun j hj => by simp at hj⟩
  · rw [World.cell?_alloc_mark w X t (0, 0) i]
    exact ⟨X[i]'(by omega), Array.getElem?_eq_getElem _⟩
  · rw [World.frozen?_alloc_mark w X t 0 0 i]
    simp

theorem row_own {w : World} {base g n : Nat} {xs : List Value} (h : w.ownsRow base 5 1 (.slice (some ⟨g, 0, none⟩) n n) n xs) : RowAt w g n [] := by
  refine ⟨fun i hi => ?_, fun i _ => h.frozenAt i, fun j hj => by simp at hj⟩
  rw [h.cellAt i (by omega)]
  have : i < xs.length := by rw [h.1]; omega
  exact ⟨xs[i], List.getElem?_eq_getElem this⟩

theorem BytesAt.far {w : World} {g : Nat} {bs : List UInt8} (h : BytesAt w g bs) (p i : Nat) (v : Value) (hp : p ≠ g) : BytesAt (w.setCell ⟨p, i, none⟩ v) g bs :=
  fun j hj => (far_cell w p i g j v hp).trans (h j hj)

theorem RowAt.put1 {w : World} {g n j : Nat} {bs : List UInt8} (h : RowAt w g n bs) (hj : bs.length = j) (hn : j < n) (b : UInt8) : RowAt (w.setCell ⟨g, j, none⟩ (.int .u8 (b.toNat : Int))) g n (bs ++ [b]) := by
  subst hj; exact h.put hn b

theorem RowAt.put3 {w : World} {g n j : Nat} {bs : List UInt8} (h : RowAt w g n bs) (hj : bs.length = j) (hn : j + 3 ≤ n) (b1 b2 : UInt8) :
    RowAt (((w.setCell ⟨g, j, none⟩ (.int .u8 37)).setCell ⟨g, j + 1, none⟩ (.int .u8 (b1.toNat : Int))).setCell ⟨g, j + 2, none⟩ (.int .u8 (b2.toNat : Int))) g n (((bs ++ [37]) ++ [b1]) ++ [b2]) :=
  ((h.put1 hj (by omega) 37).put1 (j := j + 1) (by simp [hj]) (by omega) b1).put1 (j := j + 2) (by simp [hj]) (by omega) b2

theorem RowAt.putI {w : World} {g n j : Nat} {bs : List UInt8} (h : RowAt w g n bs) (hj : bs.length = j) (hn : j < n) (b : UInt8) (x : Int) (hx : x = (b.toNat : Int)) : RowAt (w.setCell ⟨g, j, none⟩ (.int .u8 x)) g n (bs ++ [b]) := by
  subst hx; exact h.put1 hj hn b

/-- No hexadecimal digit is a slash. -/
theorem hex_ne (i : Nat) (h : i < (⟨#[48, 49, 50, 51, 52, 53, 54, 55, 56, 57, 65, 66, 67, 68, 69, 70]⟩ : ByteArray).size) : ((⟨#[48, 49, 50, 51, 52, 53, 54, 55, 56, 57, 65, 66, 67, 68, 69, 70]⟩ : ByteArray)[i]'h == 47) = false := by
  have h16 : i < 16 := h
  have : ∀ i : Fin 16, ((⟨#[48, 49, 50, 51, 52, 53, 54, 55, 56, 57, 65, 66, 67, 68, 69, 70]⟩ : ByteArray)[i.val]'(i.isLt) == 47) = false := by decide +kernel
  exact this ⟨i, h16⟩

/-- The hexadecimal digit, as net/url writes it. -/
def hx (i : Nat) : UInt8 := [48, 49, 50, 51, 52, 53, 54, 55, 56, 57, 65, 66, 67, 68, 69, 70].getD i 0

theorem hex_eq (i : Nat) (h : i < (⟨#[48, 49, 50, 51, 52, 53, 54, 55, 56, 57, 65, 66, 67, 68, 69, 70]⟩ : ByteArray).size) : (⟨#[48, 49, 50, 51, 52, 53, 54, 55, 56, 57, 65, 66, 67, 68, 69, 70]⟩ : ByteArray)[i]'h = hx i := by
  have h16 : i < 16 := h
  have : ∀ i : Fin 16, (⟨#[48, 49, 50, 51, 52, 53, 54, 55, 56, 57, 65, 66, 67, 68, 69, 70]⟩ : ByteArray)[i.val]'(i.isLt) = hx i.val := by decide +kernel
  exact this ⟨i, h16⟩

/-- What a byte is written as. -/
def escB (T : Nat → Int) (c : UInt8) : List UInt8 := if se T c = true then [37, hx (c.toNat / 16), hx (c.toNat % 16)] else [c]

/-- What net/url.escape gives of a path. -/
def esc (T : Nat → Int) (l : List UInt8) : List UInt8 := l.flatMap (escB T)

theorem esc_snoc (T : Nat → Int) (l : List UInt8) (k : Nat) (hk : k < l.length) : esc T (l.take (k + 1)) = esc T (l.take k) ++ escB T (l.getD k 0) := by
  rw [List.take_succ_eq_append_getElem hk]
  have : l.getD k 0 = l[k] := by rw [List.getD_eq_getElem?_getD, List.getElem?_eq_getElem hk]; rfl
  rw [this]
  unfold esc
  rw [List.flatMap_append, List.flatMap_singleton]

theorem esc_none (T : Nat → Int) (l : List UInt8) (h : l.countP (se T) = 0) : esc T l = l := by
  rw [List.countP_eq_zero] at h
  unfold esc
  have : ∀ c ∈ l, escB T c = [c] := fun c hc => by unfold escB; rw [if_neg (h c hc)]
  induction l with
  | nil => rfl
  | cons a l ih =>
    rw [List.flatMap_cons, this a (by simp), ih (fun c hc => h c (by simp [hc])) (fun c hc => this c (by simp [hc]))]
    rfl

theorem esc_close (bs : List UInt8) (c : UInt8) (i1 i2 : Nat) (h1 : i1 = c.toNat / 16) (h2 : i2 = c.toNat % 16) (p1 : i1 < (⟨#[48, 49, 50, 51, 52, 53, 54, 55, 56, 57, 65, 66, 67, 68, 69, 70]⟩ : ByteArray).size) (p2 : i2 < (⟨#[48, 49, 50, 51, 52, 53, 54, 55, 56, 57, 65, 66, 67, 68, 69, 70]⟩ : ByteArray).size) :
    ((bs ++ [37]) ++ [(⟨#[48, 49, 50, 51, 52, 53, 54, 55, 56, 57, 65, 66, 67, 68, 69, 70]⟩ : ByteArray)[i1]'p1]) ++ [(⟨#[48, 49, 50, 51, 52, 53, 54, 55, 56, 57, 65, 66, 67, 68, 69, 70]⟩ : ByteArray)[i2]'p2] = ((bs ++ [37]) ++ [hx (c.toNat / 16)]) ++ [hx (c.toNat % 16)] := by
  subst h1 h2
  rw [hex_eq, hex_eq]

theorem should_int (T : Nat → Int) (c : UInt8) (b : Bool) (x : Int) (w : World) (h : Tab T w) (hb : se T c = b) (hx : x = (c.toNat : Int)) :
    Calls Tryd.prog 42 #[.int .u8 x, .int .u8 1] w fun e w' => e = .returned (.bool b) ∧ w = w' := by
  subst hx; exact should_at T c b w h hb

theorem countP_take_all (T : Nat → Int) (l : List UInt8) (k : Nat) : (l.take k).countP (se T) ≤ l.countP (se T) := (List.take_sublist k l).countP_le

theorem ends_snoc (l : List UInt8) (c : UInt8) : endsSlash (l ++ [c]) = (c == 47) := by
  unfold endsSlash
  rw [List.getLast?_append]
  simp

theorem ends_take (l : List UInt8) (k : Nat) (hk : k < l.length) : endsSlash (l.take (k + 1)) = (l.getD k 0 == 47) := by
  rw [List.take_succ_eq_append_getElem hk, ends_snoc, List.getD_eq_getElem?_getD, List.getElem?_eq_getElem hk]
  rfl

theorem laid_bytes_at (w : World) (s : ByteArray) (cap : Nat) (mk : Nat × Nat) (g : Nat) (hg : w.heap.size = g) : BytesAt (w.alloc (.cells (bytesRow s cap) 5 mk)).drew g s.data.toList := by
  subst hg; exact laid_bytes w s cap mk

theorem start1 (w : World) (X : Array Value) (O : Obj) (n : Nat) (h : n ≤ 64) (hX : X.size = 64) : RowAt ((w.alloc (.cells X 97)).alloc O).drew w.heap.size n [] :=
  ((row_new w X 97 n (by omega)).below ((Below.refl _ _).alloc (Nat.le_refl _) _) (by simp)).below (B := w.heap.size + 1) ((Below.refl _ _).drew) (by omega)

theorem conv_row (w : World) (g cap n : Nat) (bs : List UInt8) (hn : bs.length = n) (h : BytesAt w g bs) :
    (convert 60 9 (.slice (some ⟨g, 0, none⟩) n cap)).run Tryd.prog w = .ok (.string ⟨bs.toArray⟩) w := by
  subst hn
  exact run_convert_bytes_back (P := Tryd.prog) w 60 9 5 ⟨g, 0, none⟩ cap bs Tryd.underlying60 Tryd.underlying5 Tryd.underlying9 (fun j hj => by
    have := h j hj
    rw [Addr.add_lit, Nat.zero_add, this, List.getD_eq_getElem?_getD, List.getElem?_eq_getElem hj]
    rfl)

theorem slice_buf (b n : Nat) (x : Int) (hx : x = (n : Int)) (hn : n ≤ 64) (w : World) : (Instr.sliceAt 97 (.pointer (some ⟨b, 0, none⟩)) none (some (.int .i64 x)) none).run Tryd.prog w = .ok (.slice (some ⟨b, 0, none⟩) n 64) w := by
  subst hx
  have h1 : Tryd.prog.arrayLen 97 = 64 := by kernel_rfl
  have h2 : Tryd.prog.elem 97 = 5 := by kernel_rfl
  have ht : Tryd.prog.underlying 97 = some (.array (Tryd.prog.arrayLen 97) (Tryd.prog.elem 97)) := by rw [h1, h2]; exact Tryd.underlying97
  have hz : ∀ w : World, (sizeOf 5).run Tryd.prog w = .ok 1 w := fun w => by kernel_rfl
  rw [run_sliceAt_array_h w 97 ⟨b, 0, none⟩ ht .i64 (n : Int) (by omega) (by rw [h1]; omega), h1, h2, hz]
  simp [Result.andThen, slicedAt, Addr.add]

set_option maxRecDepth 100000 in
set_option maxHeartbeats 1000000 in
theorem escape_any (T : Nat → Int) (s : ByteArray) (w : World) (h : Tab T w) (h47 : se T 47 = false) (hs : s.size ≤ 1000000) (h0 : 0 < w.heap.size) :
    Calls Tryd.prog 31 #[.string s, .int .u8 1] w fun e w' => (∃ t : ByteArray, e = .returned (.string t) ∧ endsSlash t.data.toList = endsSlash s.data.toList ∧ t.size ≤ 3 * s.size ∧ t = ⟨(esc T s.data.toList).toArray⟩) ∧ Below w.heap.size w w' := by
  have hcv := fun w s => run_bytes_of_string (P := Tryd.prog) w 9 60 5 s Tryd.underlying9 Tryd.underlying60 Tryd.underlying5
  have hlen : s.data.toList.length = s.size := (Lib.size_eq s).symm
  have H47 : Hid (se T 47 = false) := h47
  clear h47
  go_enter Tryd.func31, Tryd.ntmps31
  go_wp2
  go_loopw [5, 6, 19] (fun sp hx vi wr => ∃ k : Nat, k ≤ s.size ∧ vi = .int .i64 k ∧ sp = .int .i64 0 ∧ hx = .int .i64 ((s.data.toList.take k).countP (se T) : Nat) ∧ Below w.heap.size w wr ∧ BytesAt wr w.heap.size s.data.toList ∧ w.heap.size < wr.heap.size) (fun _ _ vi _ => s.size - (intOf vi).toNat)
  case atStart => exact ⟨0, Nat.zero_le _, rfl, rfl, rfl, ((Below.refl _ _).alloc (Nat.le_refl _) _).drew, laid_bytes _ _ _ _, by show _ < (w.heap.push _).size; simp⟩
  case round =>
    obtain ⟨k, hk, rfl, rfl, rfl, hbel, hby, hsz⟩ := hrel
    have htab : Tab T wr := fun i hi => (hbel.cell (p := ⟨0, i, none⟩) h0).trans (h i hi)
    by_cases hlt : k < s.size
    · have hck := hby k (by omega)
      have hcn := countP_snoc T s.data.toList k (by omega)
      have hle := countP_take_le T s.data.toList k
      generalize s.data.toList.getD k 0 = c at hck hcn
      generalize hC : (s.data.toList.take k).countP (se T) = C at hcn hle ⊢
      have HT : Hid (Tab T wr) := htab
      have HB : Hid (BytesAt wr w.heap.size s.data.toList) := hby
      have HH : Hid (Tab T w) := h
      clear htab hby hC h hlen
      cases hse : se T c with
      | false =>
        have HN : Hid ((s.data.toList.take (k + 1)).countP (se T) = C) := by show _ = _; rw [hcn, hse]; simp
        have HS : Hid (se T c = false) := hse
        clear hcn hse
        go_wp2_with (go_at_call 42; refine (should_at T c false _ HT.out HS.out).mono ?_; rintro e w' ⟨rfl, rfl⟩)
        go_roundw
        case rel => exact ⟨k + 1, by omega, by go_num, rfl, by rw [HN.out], hbel, HB.out, hsz⟩
        case measure => simp [intOf]; omega
      | true =>
        have HN : Hid ((s.data.toList.take (k + 1)).countP (se T) = C + 1) := by show _ = _; rw [hcn, hse]; simp
        have HS : Hid (se T c = true) := hse
        clear hcn hse
        go_wp2_with (go_at_call 42; refine (should_at T c true _ HT.out HS.out).mono ?_; rintro e w' ⟨rfl, rfl⟩)
        all_goals
          go_roundw
          case rel => exact ⟨k + 1, by omega, by go_num, rfl, by rw [HN.out]; go_num, hbel, HB.out, hsz⟩
          case measure => simp [intOf]; omega
    · have hkk : k = s.size := by omega
      have hCC : (s.data.toList.take k).countP (se T) = s.data.toList.countP (se T) := by rw [List.take_of_length_le (by omega)]
      rw [hCC]
      have hle := List.countP_le_length (p := se T) (l := s.data.toList)
      rw [hlen] at hle
      generalize hC : s.data.toList.countP (se T) = C at hle ⊢
      have HC : Hid (s.data.toList.countP (se T) = C) := hC
      have HT : Hid (Tab T wr) := htab
      have HB : Hid (BytesAt wr w.heap.size s.data.toList) := hby
      have HH : Hid (Tab T w) := h
      have HL : Hid (s.data.toList.length = s.size) := hlen
      clear htab hby hC h hlen hCC hkk
      by_cases hC0 : C = 0
      · have hz : ((C : Int) == 0) = true := by simp [hC0]
        have HZ : Hid (s = ⟨(esc T s.data.toList).toArray⟩) := by show _ = _; rw [esc_none T _ (HC.out.trans hC0)]
        clear hC0
        go_wp2
        go_ret
        exact ⟨⟨s, rfl, rfl, by omega, HZ.out⟩, hbel⟩
      · have hz : ((C : Int) == 0) = false := by simp; omega
        clear hC0
        by_cases hr : (s.size : Int) + 2 * (C : Int) ≤ 64
        · have hsl := fun b => slice_buf b (s.size + 2 * C) ((s.size : Int) + 2 * (C : Int)) (by omega) (by omega)
          go_wp2
          have hG0 : w.heap.size < wr.heap.size := by omega
          obtain ⟨G, hGG⟩ : ∃ G, G = wr.heap.size := ⟨_, rfl⟩
          obtain ⟨H, hHH⟩ : ∃ H, H = wr.heap.size + 1 := ⟨_, rfl⟩
          have hsz2 : G < H := by omega
          rw [← hGG] at hG0
          rw [← hHH, ← hGG]
          go_loopw [13, 78] (fun vj vi wq => ∃ (k : Nat) (bs : List UInt8), k ≤ s.size ∧ vi = .int .i64 k ∧ vj = .int .i64 bs.length ∧ bs.length = k + 2 * (s.data.toList.take k).countP (se T) ∧ endsSlash bs = endsSlash (s.data.toList.take k) ∧ RowAt wq G (s.size + 2 * C) bs ∧ Below w.heap.size w wq ∧ BytesAt wq H s.data.toList ∧ Hid (bs = esc T (s.data.toList.take k))) (fun _ vi _ => s.size - (intOf vi).toNat)
          case atStart =>
            subst hHH
            subst hGG
            exact ⟨0, [], Nat.zero_le _, rfl, rfl, rfl, rfl, start1 _ _ _ _ (by omega) rfl, (((hbel.alloc (Nat.le_of_lt hsz) _).alloc (by simp; omega) _).drew), laid_bytes_at _ _ _ _ _ (World.size_alloc _ _), rfl⟩
          case round =>
            clear hHH hGG hbel HT HB hsz hk hcv hsl
            obtain ⟨k, bs, hk, rfl, rfl, hbl, hbe, hrow, hbel, hby, hes⟩ := hrel
            have htab : Tab T wr := fun i hi => (hbel.cell (p := ⟨0, i, none⟩) h0).trans (HH.out i hi)
            by_cases hlt : k < s.size
            · have hkl : k < s.data.toList.length := by rw [HL.out]; exact hlt
              have hck := hby k hkl
              have hcn := countP_snoc T s.data.toList k hkl
              have hca := countP_take_all T s.data.toList (k + 1)
              rw [HC.out] at hca
              have hen := ends_take s.data.toList k hkl
              have hesn := esc_snoc T s.data.toList k hkl
              rw [← hes.out] at hesn
              generalize s.data.toList.getD k 0 = c at hck hcn hen hesn
              generalize (s.data.toList.take k).countP (se T) = q at hcn hbl
              have hc256 : (c.toNat : Int) < 256 := by have := c.toNat_lt; omega
              cases hse : se T c with
              | false =>
                rw [hse] at hcn
                simp only [Bool.false_eq_true, if_false, Nat.add_zero] at hcn
                rw [hcn] at hca
                obtain ⟨x0, hx0⟩ := hrow.1 bs.length (by omega)
                have f0 := hrow.2.1 bs.length (by omega)
                have hjb : bs.length < s.size + 2 * C := by omega
                have HS : Hid (se T c = false) := hse
                have HT : Hid (Tab T wr) := htab
                have HR : Hid (RowAt wr G (s.size + 2 * C) bs) := hrow
                have HBY : Hid (BytesAt wr H s.data.toList) := hby
                have HQ : Hid (bs.length + 1 = k + 1 + 2 * (s.data.toList.take (k + 1)).countP (se T)) := by show _ = _; rw [hcn]; omega
                have HE : Hid (endsSlash (s.data.toList.take (k + 1)) = (c == 47)) := hen
                have HX : Hid (esc T (s.data.toList.take (k + 1)) = bs ++ [c]) := by show _ = _; rw [hesn, escB, hse]; rfl
                generalize hj : bs.length = j at hx0 f0 hjb ⊢
                have HJ : Hid (bs.length = j) := hj
                clear hse htab hrow hby hbl hcn hbe hen hca hj hesn hes
                go_wp2_with (go_at_call 42; refine (should_int T c false _ _ HT.out HS.out (by omega)).mono ?_; rintro e w' ⟨rfl, rfl⟩)
                all_goals
                  go_roundw
                  case rel => exact ⟨k + 1, bs ++ [c], by omega, by go_num, by simp [HJ.out], (by rw [List.length_append]; exact HQ.out), (by rw [ends_snoc, HE.out]), HR.out.putI HJ.out hjb c _ (by omega), hbel.setCell (p := ⟨G, j, none⟩) (Nat.le_of_lt hG0) _, HBY.out.far G j _ (by omega), HX.out.symm⟩
                  case measure => simp [intOf]; omega
              | true =>
                rw [hse] at hcn
                simp only [if_true] at hcn
                rw [hcn] at hca
                obtain ⟨x0, hx0⟩ := hrow.1 bs.length (by omega)
                obtain ⟨x1, hx1⟩ := hrow.1 (bs.length + 1) (by omega)
                obtain ⟨x2, hx2⟩ := hrow.1 (bs.length + 2) (by omega)
                have f0 := hrow.2.1 bs.length (by omega)
                have f1 := hrow.2.1 (bs.length + 1) (by omega)
                have f2 := hrow.2.1 (bs.length + 2) (by omega)
                have hjb : bs.length + 3 ≤ s.size + 2 * C := by omega
                have HS : Hid (se T c = true) := hse
                have HT : Hid (Tab T wr) := htab
                have HR : Hid (RowAt wr G (s.size + 2 * C) bs) := hrow
                have HBY : Hid (BytesAt wr H s.data.toList) := hby
                have HQ : Hid (bs.length + 3 = k + 1 + 2 * (s.data.toList.take (k + 1)).countP (se T)) := by show _ = _; rw [hcn]; omega
                have HX : Hid (esc T (s.data.toList.take (k + 1)) = ((bs ++ [37]) ++ [hx (c.toNat / 16)]) ++ [hx (c.toNat % 16)]) := by show _ = _; rw [hesn, escB, hse]; simp
                have HE : Hid (endsSlash (s.data.toList.take (k + 1)) = false) := by
                  show _ = _
                  rw [hen]
                  cases h : (c == 47) with
                  | false => rfl
                  | true =>
                    have : c = 47 := by simpa using h
                    rw [this, H47.out] at hse
                    cases hse
                generalize hj : bs.length = j at hx0 hx1 hx2 f0 f1 f2 hjb ⊢
                have HJ : Hid (bs.length = j) := hj
                clear hse htab hrow hby hbl hcn hbe hen hca hj hesn hes
                go_wp2_with (go_at_call 42; refine (should_int T c true _ _ HT.out HS.out (by omega)).mono ?_; rintro e w' ⟨rfl, rfl⟩)
                all_goals
                  go_roundw
                  case rel => exact ⟨k + 1, _, by omega, by go_num, (by simp [HJ.out]), (by simpa using HQ.out), (by rw [ends_snoc, HE.out]; exact hex_ne _ _), HR.out.put3 HJ.out hjb _ _, ((hbel.setCell (p := ⟨G, j, none⟩) (Nat.le_of_lt hG0) _).setCell (p := ⟨G, j + 1, none⟩) (Nat.le_of_lt hG0) _).setCell (p := ⟨G, j + 2, none⟩) (Nat.le_of_lt hG0) _, ((HBY.out.far G j _ (by omega)).far G (j + 1) _ (by omega)).far G (j + 2) _ (by omega), (esc_close bs c _ _ (by omega) (by omega) _ _).trans HX.out.symm⟩
                  case measure => simp [intOf]; omega
            · obtain rfl : k = s.size := by omega
              rw [List.take_of_length_le (by rw [HL.out]; exact Nat.le_refl _)] at hbl hbe hes
              rw [HC.out] at hbl
              have hcb := conv_row wr G 64 (s.size + 2 * C) bs hbl hrow.2.2
              have HE : Hid (endsSlash bs = endsSlash s.data.toList) := hbe
              have HQ : Hid (bs.length = s.size + 2 * C) := hbl
              clear htab hrow hby hbl hbe
              go_wp2
              go_ret
              exact ⟨⟨⟨bs.toArray⟩, rfl, HE.out, (by have := HQ.out; show bs.length ≤ _; omega), (by rw [hes.out])⟩, hbel⟩
        · obtain ⟨i0, hi, hz0, hz1, hz2⟩ := info_parts info5
          have hb : i0.bytes * (s.size + 2 * C) ≤ 281474976710656 := by rw [hz2]; omega
          have hm : s.size + 2 * C ≤ maxLen := by unfold maxLen; omega
          go_wp2_with (at_make; refine wpList_make_full _ rfl _ _ 60 rfl wr.heap.size 5 i0 (.int .u8 0) 1 Tryd.underlying60 hi hz0 hz1 _ _ _ _ (s.size + 2 * C) rfl rfl (by omega) (by omega) hb hm (by simp) ?_; intro w2 hown hgrow; simp only [World.size_alloc] at hown)
          have hbel2 : Below w.heap.size w w2 := ((hbel.alloc (by omega) _).grown hgrow (by simp; omega) (by simp))
          have hRow := row_own hown
          have hsz2 : wr.heap.size + 1 < w2.heap.size := by
            rcases hown.2 with ⟨h', _⟩ | ⟨g', cap', cur, h', _, hg', _⟩
            · simp at h'
            · simp only [Value.slice.injEq, Option.some.injEq, Addr.mk.injEq, and_true, true_and] at h'
              obtain ⟨rfl, _⟩ := h'
              exact (Array.getElem?_eq_some_iff.1 hg').1
          have hG0 : w.heap.size < wr.heap.size + 1 := by omega
          generalize wr.heap.size + 1 = G at hRow hsz2 hG0 ⊢
          generalize hHH : w2.heap.size = H at hsz2 ⊢
          go_loopw [13, 78] (fun vj vi wq => ∃ (k : Nat) (bs : List UInt8), k ≤ s.size ∧ vi = .int .i64 k ∧ vj = .int .i64 bs.length ∧ bs.length = k + 2 * (s.data.toList.take k).countP (se T) ∧ endsSlash bs = endsSlash (s.data.toList.take k) ∧ RowAt wq G (s.size + 2 * C) bs ∧ Below w.heap.size w wq ∧ BytesAt wq H s.data.toList ∧ Hid (bs = esc T (s.data.toList.take k))) (fun _ vi _ => s.size - (intOf vi).toNat)
          case atStart =>
            subst hHH
            exact ⟨0, [], Nat.zero_le _, rfl, rfl, rfl, rfl, hRow.below ((Below.refl _ _).drew.alloc (Nat.le_refl _) _) hsz2, (hbel2.drew.alloc hbel2.size _), laid_bytes _ _ _ _, rfl⟩
          case round =>
            clear hHH hRow hown hgrow hbel2 hi hz0 hz1 hz2 hb hm hbel HT HB hsz hk hcv
            obtain ⟨k, bs, hk, rfl, rfl, hbl, hbe, hrow, hbel, hby, hes⟩ := hrel
            have htab : Tab T wr := fun i hi => (hbel.cell (p := ⟨0, i, none⟩) h0).trans (HH.out i hi)
            by_cases hlt : k < s.size
            · have hkl : k < s.data.toList.length := by rw [HL.out]; exact hlt
              have hck := hby k hkl
              have hcn := countP_snoc T s.data.toList k hkl
              have hca := countP_take_all T s.data.toList (k + 1)
              rw [HC.out] at hca
              have hen := ends_take s.data.toList k hkl
              have hesn := esc_snoc T s.data.toList k hkl
              rw [← hes.out] at hesn
              generalize s.data.toList.getD k 0 = c at hck hcn hen hesn
              generalize (s.data.toList.take k).countP (se T) = q at hcn hbl
              have hc256 : (c.toNat : Int) < 256 := by have := c.toNat_lt; omega
              cases hse : se T c with
              | false =>
                rw [hse] at hcn
                simp only [Bool.false_eq_true, if_false, Nat.add_zero] at hcn
                rw [hcn] at hca
                obtain ⟨x0, hx0⟩ := hrow.1 bs.length (by omega)
                have f0 := hrow.2.1 bs.length (by omega)
                have hjb : bs.length < s.size + 2 * C := by omega
                have HS : Hid (se T c = false) := hse
                have HT : Hid (Tab T wr) := htab
                have HR : Hid (RowAt wr G (s.size + 2 * C) bs) := hrow
                have HBY : Hid (BytesAt wr H s.data.toList) := hby
                have HQ : Hid (bs.length + 1 = k + 1 + 2 * (s.data.toList.take (k + 1)).countP (se T)) := by show _ = _; rw [hcn]; omega
                have HE : Hid (endsSlash (s.data.toList.take (k + 1)) = (c == 47)) := hen
                have HX : Hid (esc T (s.data.toList.take (k + 1)) = bs ++ [c]) := by show _ = _; rw [hesn, escB, hse]; rfl
                generalize hj : bs.length = j at hx0 f0 hjb ⊢
                have HJ : Hid (bs.length = j) := hj
                clear hse htab hrow hby hbl hcn hbe hen hca hj hesn hes
                go_wp2_with (go_at_call 42; refine (should_int T c false _ _ HT.out HS.out (by omega)).mono ?_; rintro e w' ⟨rfl, rfl⟩)
                all_goals
                  go_roundw
                  case rel => exact ⟨k + 1, bs ++ [c], by omega, by go_num, by simp [HJ.out], (by rw [List.length_append]; exact HQ.out), (by rw [ends_snoc, HE.out]), HR.out.putI HJ.out hjb c _ (by omega), hbel.setCell (p := ⟨G, j, none⟩) (Nat.le_of_lt hG0) _, HBY.out.far G j _ (by omega), HX.out.symm⟩
                  case measure => simp [intOf]; omega
              | true =>
                rw [hse] at hcn
                simp only [if_true] at hcn
                rw [hcn] at hca
                obtain ⟨x0, hx0⟩ := hrow.1 bs.length (by omega)
                obtain ⟨x1, hx1⟩ := hrow.1 (bs.length + 1) (by omega)
                obtain ⟨x2, hx2⟩ := hrow.1 (bs.length + 2) (by omega)
                have f0 := hrow.2.1 bs.length (by omega)
                have f1 := hrow.2.1 (bs.length + 1) (by omega)
                have f2 := hrow.2.1 (bs.length + 2) (by omega)
                have hjb : bs.length + 3 ≤ s.size + 2 * C := by omega
                have HS : Hid (se T c = true) := hse
                have HT : Hid (Tab T wr) := htab
                have HR : Hid (RowAt wr G (s.size + 2 * C) bs) := hrow
                have HBY : Hid (BytesAt wr H s.data.toList) := hby
                have HQ : Hid (bs.length + 3 = k + 1 + 2 * (s.data.toList.take (k + 1)).countP (se T)) := by show _ = _; rw [hcn]; omega
                have HX : Hid (esc T (s.data.toList.take (k + 1)) = ((bs ++ [37]) ++ [hx (c.toNat / 16)]) ++ [hx (c.toNat % 16)]) := by show _ = _; rw [hesn, escB, hse]; simp
                have HE : Hid (endsSlash (s.data.toList.take (k + 1)) = false) := by
                  show _ = _
                  rw [hen]
                  cases h : (c == 47) with
                  | false => rfl
                  | true =>
                    have : c = 47 := by simpa using h
                    rw [this, H47.out] at hse
                    cases hse
                generalize hj : bs.length = j at hx0 hx1 hx2 f0 f1 f2 hjb ⊢
                have HJ : Hid (bs.length = j) := hj
                clear hse htab hrow hby hbl hcn hbe hen hca hj hesn hes
                go_wp2_with (go_at_call 42; refine (should_int T c true _ _ HT.out HS.out (by omega)).mono ?_; rintro e w' ⟨rfl, rfl⟩)
                all_goals
                  go_roundw
                  case rel => exact ⟨k + 1, _, by omega, by go_num, (by simp [HJ.out]), (by simpa using HQ.out), (by rw [ends_snoc, HE.out]; exact hex_ne _ _), HR.out.put3 HJ.out hjb _ _, ((hbel.setCell (p := ⟨G, j, none⟩) (Nat.le_of_lt hG0) _).setCell (p := ⟨G, j + 1, none⟩) (Nat.le_of_lt hG0) _).setCell (p := ⟨G, j + 2, none⟩) (Nat.le_of_lt hG0) _, ((HBY.out.far G j _ (by omega)).far G (j + 1) _ (by omega)).far G (j + 2) _ (by omega), (esc_close bs c _ _ (by omega) (by omega) _ _).trans HX.out.symm⟩
                  case measure => simp [intOf]; omega
            · obtain rfl : k = s.size := by omega
              rw [List.take_of_length_le (by rw [HL.out]; exact Nat.le_refl _)] at hbl hbe hes
              rw [HC.out] at hbl
              have hcb := conv_row wr G (s.size + 2 * C) (s.size + 2 * C) bs hbl hrow.2.2
              have HE : Hid (endsSlash bs = endsSlash s.data.toList) := hbe
              have HQ : Hid (bs.length = s.size + 2 * C) := hbl
              clear htab hrow hby hbl hbe
              go_wp2
              go_ret
              exact ⟨⟨⟨bs.toArray⟩, rfl, HE.out, (by have := HQ.out; show bs.length ≤ _; omega), (by rw [hes.out])⟩, hbel⟩
end Go.Proofs.Qxb6613095aDoor
