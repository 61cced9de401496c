/- The walk of appendUnits: what is appended is 'text u p', in new memory. -/
import Derived.Test.Qxb6603004aBytes
import Derived.Test.Qxb6603004aText
import Derived.ArgAppend
namespace Go.Proofs.Qxb6603004a.Units
open Go.RowKit Go.Proofs.Qxb6603004a.Plain Go.Proofs.Qxb6603004a.Bytes

/-- the text's cells -/
def byteCells (l : List UInt8) : List Value := l.map fun b => Value.int .u8 (b.toNat : Int)

/-- the buffer's end bears the text -/
def Tail (f : Nat → Value) (txt : List UInt8) : Prop := ∀ j (h : j < txt.length), f (40 - txt.length + j) = .int .u8 (txt[j].toNat : Int)
def Buf (w wr : World) (txt : List UInt8) : Prop := (∃ f, wr.rowIs w.heap.size 37 40 f ∧ Tail f txt) ∧ Below w.heap.size w wr

theorem Buf.step {w wr : World} {txt : List UInt8} {m : Nat} {c : UInt8} {x : Int} (h : Buf w wr txt) (hm : m + txt.length = 39) (hx : x = (c.toNat : Int)) : Buf w (wr.setCell ⟨w.heap.size, m, none⟩ (.int .u8 x)) (c :: txt) := by
  obtain ⟨⟨f, hr, ht⟩, hb⟩ := h
  refine ⟨⟨_, hr.set m _, ?_⟩, hb.setCell (Nat.le_refl _) _⟩
  intro j hj
  subst hx
  cases j with
  | zero =>
    simp only [List.length_cons]
    rw [if_pos (by omega)]
    rfl
  | succ j =>
    simp only [List.length_cons] at hj ⊢
    rw [if_neg (by omega)]
    have := ht j (by omega)
    rw [show 40 - (txt.length + 1) + (j + 1) = 40 - txt.length + j by omega, this]
    rfl
theorem Buf.cell {w wr : World} {txt : List UInt8} (h : Buf w wr txt) {m : Nat} (hm : m < 40) : ∃ v, wr.cell? ⟨w.heap.size, m, none⟩ = some v := by
  obtain ⟨⟨f, hr, ht⟩, hb⟩ := h
  exact ⟨_, hr.cell hm⟩
theorem Buf.free {w wr : World} {txt : List UInt8} (h : Buf w wr txt) (m : Nat) : wr.frozen? ⟨w.heap.size, m, none⟩ = false := by
  obtain ⟨⟨f, hr, ht⟩, hb⟩ := h
  exact hr.frozen m
theorem Buf.start (w : World) (c : Array Value) (hc : c.size = 40) : Buf w (w.alloc (.cells c 37)) [] := by
  refine ⟨⟨fun i => c[i]?.getD (.bool false), ?_, fun j h => by simp at h⟩, (Below.refl _ _).alloc (Nat.le_refl _) _⟩
  rw [← hc]
  exact World.rowIs_alloc w c 37 _ (fun i hi => by simp [Array.getElem?_eq_getElem hi])

theorem addr_add (b m j : Nat) : (⟨b, m, none⟩ : Addr).add j = ⟨b, m + j, none⟩ := by
  unfold Addr.add
  by_cases h : j = 0
  · subst h; simp
  · simp [h]
theorem Try.len37 : Try.prog.arrayLen 37 = 40 := by kernel_rfl
theorem Try.arr37 : Try.prog.underlying 37 = some (.array (Try.prog.arrayLen 37) (Try.prog.elem 37)) := by kernel_rfl
theorem Try.elem37 : Try.prog.elem 37 = 5 := by kernel_rfl
theorem slice_buf (b m : Nat) (hm : m < 40) (W : World) : (Instr.sliceAt 37 (.pointer (some ⟨b, 0, none⟩)) (some (.int .i64 m)) none none).run Try.prog W = .ok (.slice (some ⟨b, m, none⟩) (40 - m) (40 - m)) W := by
  have hi : ((sizeOf 5).run Try.prog W) = .ok 1 W := by kernel_rfl
  rw [run_sliceAt_array_l W 37 _ Try.arr37 .i64 m (by omega) (by rw [Try.len37]; omega), Try.elem37, hi, Try.len37]
  simp only [Result.andThen, slicedAt, Int.toNat_natCast]
  rw [if_neg (by omega), addr_add]
  simp
theorem Buf.news {w wr : World} {txt : List UInt8} {m : Nat} (h : Buf w wr txt) (hm : m + txt.length = 40) : ∀ j v, (byteCells txt)[j]? = some v → wr.cell? ((⟨w.heap.size, m, none⟩ : Addr).add j) = some v := by
  obtain ⟨⟨f, hr, ht⟩, hb⟩ := h
  intro j v hj
  have hjl : j < txt.length := by have := (List.getElem?_eq_some_iff.1 hj).1; simpa [byteCells] using this
  have e := ht j hjl
  have e2 := hr.cell (i := m + j) (by omega)
  rw [show 40 - txt.length + j = m + j by omega] at e
  rw [e] at e2
  simp only [byteCells, List.getElem?_map, List.getElem?_eq_getElem hjl, Option.map_some, Option.some.injEq] at hj
  rw [← hj, addr_add]
  exact e2
theorem Buf.olds {w wr : World} {txt : List UInt8} (h : Buf w wr txt) {ao : Option Addr} {olds : List Value} (holds : ∀ b, ao = some b → ∀ j v, olds[j]? = some v → w.cell? (b.add j) = some v) :
    ∀ b, ao = some b → ∀ j v, olds[j]? = some v → wr.cell? (b.add j) = some v := by
  intro b hb j v hj
  have e := holds b hb j v hj
  rw [h.2.cell (p := b.add j) (block_lt_of_cell e)]
  exact e
theorem byteCells_one (l : List UInt8) : ∀ u ∈ byteCells l, u.oneCell' = true := by
  intro u hu
  simp only [byteCells, List.mem_map] at hu
  obtain ⟨b, _, rfl⟩ := hu
  rfl
theorem byteCells_len (l : List UInt8) : (byteCells l).length = l.length := by simp [byteCells]
theorem ownsRow_base {w : World} {b b' : Nat} {e : TypeId} {size : Nat} {v : Value} {n : Nat} {xs : List Value} (h : w.ownsRow b e size v n xs) (hb : b' ≤ b) : w.ownsRow b' e size v n xs := by
  refine ⟨h.1, ?_⟩
  rcases h.2 with h2 | ⟨g, cap, cur, e1, e2, e3⟩
  · exact .inl h2
  · exact .inr ⟨g, cap, cur, e1, by omega, e3⟩
theorem done_eq {u j q k : Nat} {txt : List UInt8} (HT : Hid (text u j = whole (k + 1) q ++ txt)) (hz : q / 10 = 0) : text u j = dg (q % 10) :: txt := by
  rw [HT.out, whole, if_pos hz]; rfl
theorem more_eq {u j q k : Nat} {txt : List UInt8} (HT : Hid (text u j = whole (k + 1) q ++ txt)) (hk : q < 10 ^ (k + 1)) (hz : ¬ q / 10 = 0) : ∃ k', q / 10 < 10 ^ (k' + 1) ∧ Hid (text u j = whole (k' + 1) (q / 10) ++ (dg (q % 10) :: txt)) := by
  have h2 : q / 10 < 10 ^ k := by rw [Nat.pow_succ] at hk; omega
  obtain ⟨k, rfl⟩ : ∃ k', k = k' + 1 := ⟨k - 1, by
    rcases k with _ | k
    · simp at h2; omega
    · rfl⟩
  refine ⟨k, h2, ?_⟩
  show _ = _
  rw [HT.out, whole, if_neg hz]; simp

set_option maxHeartbeats 800000 in
theorem inner (ao : Option Addr) (n u p : Nat) (olds : List Value) (w : World) (hn : n ≤ 65536) (hu : u ≤ 9223372036854775807) (hp : p ≤ 38)
    (hnone : ao = none → n = 0) (hlo : olds.length = n) (holds : ∀ b, ao = some b → ∀ j v, olds[j]? = some v → w.cell? (b.add j) = some v) :
    Calls Try.prog 21 #[.slice ao n n, .int .i64 u, .int .u8 p] w fun e w' => ∃ v, e = .returned v ∧ w'.ownsRow w.heap.size 5 1 v (n + (text u p).length) (olds ++ byteCells (text u p)) ∧ Below w.heap.size w w' := by
  go_enter Try.func21, Try.ntmps21
  go_wp2_with fail
  go_loopw [1, 8, 10] (fun uu i k wr => ∃ j m : Nat, m + j = 40 ∧ j ≤ p ∧ k = .int .u8 j ∧ i = .int .i64 m ∧ uu = .int .i64 ((u / 10 ^ j : Nat) : Int) ∧ Buf w wr (decs u j)) (fun _ _ k _ => p - (intOf k).toNat)
  case atStart => exact ⟨0, 40, rfl, Nat.zero_le _, rfl, rfl, by simp, Buf.start w _ rfl⟩
  case round =>
    obtain ⟨j, m, hm, hj, rfl, rfl, rfl, hbuf⟩ := hrel
    by_cases hlt : j < p
    · obtain ⟨m, rfl⟩ : ∃ k, m = k + 1 := ⟨m - 1, by omega⟩
      obtain ⟨v, hcell⟩ := hbuf.cell (m := m) (by omega)
      have hfree := hbuf.free m
      have HD : Hid (u / 10 ^ j / 10 = u / 10 ^ (j + 1)) := by show _ = _; rw [Nat.div_div_eq_div_mul, Nat.pow_succ]
      have hq : u / 10 ^ j ≤ 9223372036854775807 := Nat.le_trans (Nat.div_le_self _ _) hu
      have HX : Hid (decs u (j + 1) = dg (u / 10 ^ j % 10) :: decs u j) := rfl
      generalize u / 10 ^ j = q at hq HD HX ⊢
      go_wp2
      go_roundw
      case rel =>
        exact ⟨j + 1, m, by omega, by omega, by go_num, rfl, by rw [← HD.out]; go_num, by rw [HX.out]; exact hbuf.step (by rw [decs_len]; omega) (by rw [dg_toInt (by omega)]; omega)⟩
      case measure => simp [intOf]; omega
    · obtain rfl : j = p := by omega
      clear hlt hj
      have hm2 : 2 ≤ m := by omega
      have hq : u / 10 ^ j ≤ 9223372036854775807 := Nat.le_trans (Nat.div_le_self _ _) hu
      have HF : Hid (∃ txt, txt = point j ++ decs u j ∧ text u j = whole 19 (u / 10 ^ j) ++ txt) := ⟨_, rfl, rfl⟩
      have hfl := text_len hu hp
      generalize u / 10 ^ j = q at hq HF ⊢
      by_cases h0 : j = 0
      · have hjp : ¬ 0 < j := by omega
        obtain ⟨txt, htx, htf⟩ := HF.out
        have hb2 : Buf w wr txt := by rw [htx, h0]; rw [h0] at hbuf; exact hbuf
        have htl : txt.length + m = 40 := by rw [htx, h0]; simp [point, decs]; omega
        have HT : Hid (text u j = whole 19 q ++ txt) := htf
        have hcell : True := trivial
        have hfree : True := trivial
        clear htx htf HF h0 hbuf
        go_wp2_with fail
        go_loopw [1, 8] (fun uu i wr => ∃ q m k : Nat, ∃ txt, q ≤ 9223372036854775807 ∧ m + txt.length = 40 ∧ q < 10 ^ (k + 1) ∧ i = .int .i64 m ∧ uu = .int .i64 q ∧ Hid (text u j = whole (k + 1) q ++ txt) ∧ Buf w wr txt) (fun uu _ _ => (intOf uu).toNat)
        case atStart => exact ⟨q, m, 18, txt, hq, by omega, lt_pow hq _ (by omega), rfl, rfl, HT, hb2⟩
        case round =>
          clear hb2 HT htl hm hm2 hcell hfree
          obtain ⟨q, m, k, txt, hq, hm, hk, rfl, rfl, HT, hbuf⟩ := hrel
          have hpos : 0 < m := by
            have e := congrArg List.length HT.out
            have := whole_pos k q
            rw [List.length_append] at e
            omega
          obtain ⟨m, rfl⟩ : ∃ k, m = k + 1 := ⟨m - 1, by omega⟩
          obtain ⟨v, hcell⟩ := hbuf.cell (m := m) (by omega)
          have hfree := hbuf.free m
          have hb2 := hbuf.step (m := m) (c := dg (q % 10)) (x := 48 + (q : Int) % 10) (by omega) (by rw [dg_toInt (by omega)]; omega)
          by_cases hz : q / 10 = 0
          · have hz2 : (((q : Int) / 10) == 0) = true := by simp; omega
            have HE : Hid (text u j = dg (q % 10) :: txt) := done_eq HT hz
            obtain ⟨i0, hi, hi0, hi1, hi2⟩ := info_parts Try.info5
            have hnews := hb2.news (m := m) (by simp; omega)
            have hol := hb2.olds holds
            have hsz := hb2.2.size
            have hfb := hb2.2
            rw [← HE.out] at hnews
            have htl : (text u j).length = 40 - m := by rw [HE.out]; simp; omega
            have hbl : (byteCells (text u j)).length = (40 - m) * 1 := by rw [byteCells_len, htl]; omega
            have hsl := slice_buf w.heap.size m (by omega)
            clear hb2
            go_wp2_with (at_builtin; refine wpList_append_grows _ rfl (.tmp 41) (.tmp 43) 26 rfl 5 i0 (.int .u8 0) 1 1 Try.underlying26 hi hi0 hi1 hi2 rfl (by decide) ao n n olds rfl (fun h => ⟨hnone h, hnone h⟩) (by omega) hol ⟨w.heap.size, m, none⟩ (40 - m) (40 - m) (byteCells (text u j)) rfl hbl hnews (byteCells_one _) (by omega) (by unfold maxLen; omega) (by omega) ?_; intro v' w1 hown hgrow)
            go_ret
            exact ⟨v', rfl, by rw [htl]; exact ownsRow_base hown hsz, hfb.grown hgrow hsz (fun k h => by cases h)⟩
          · have hz2 : (((q : Int) / 10) == 0) = false := by simp; omega
            obtain ⟨k', hk', HT'⟩ := more_eq HT hk hz
            go_wp2_with fail
            go_roundw
            case rel => exact ⟨q / 10, m, k', _, by omega, by simp; omega, hk', rfl, by go_num, HT', hb2⟩
            case measure => simp [intOf]; omega
      · obtain ⟨m, rfl⟩ : ∃ k, m = k + 1 := ⟨m - 1, by omega⟩
        obtain ⟨v, hcell⟩ := hbuf.cell (m := m) (by omega)
        have hfree := hbuf.free m
        have hb2 := hbuf.step (m := m) (c := 46) (x := 46) (by rw [decs_len]; omega) rfl
        have hjp : 0 < j := by omega
        obtain ⟨txt, htx, htf⟩ := HF.out
        rw [show 46 :: decs u j = txt by rw [htx, point, if_neg h0]; rfl] at hb2
        have htl : txt.length + m = 40 := by rw [htx]; simp [point, h0, decs_len]; omega
        have HT : Hid (text u j = whole 19 q ++ txt) := htf
        clear htx htf HF h0 hbuf
        go_wp2_with fail
        go_loopw [1, 8] (fun uu i wr => ∃ q m k : Nat, ∃ txt, q ≤ 9223372036854775807 ∧ m + txt.length = 40 ∧ q < 10 ^ (k + 1) ∧ i = .int .i64 m ∧ uu = .int .i64 q ∧ Hid (text u j = whole (k + 1) q ++ txt) ∧ Buf w wr txt) (fun uu _ _ => (intOf uu).toNat)
        case atStart => exact ⟨q, m, 18, txt, hq, by omega, lt_pow hq _ (by omega), rfl, rfl, HT, hb2⟩
        case round =>
          clear hb2 HT htl hm hm2 hcell hfree
          obtain ⟨q, m, k, txt, hq, hm, hk, rfl, rfl, HT, hbuf⟩ := hrel
          have hpos : 0 < m := by
            have e := congrArg List.length HT.out
            have := whole_pos k q
            rw [List.length_append] at e
            omega
          obtain ⟨m, rfl⟩ : ∃ k, m = k + 1 := ⟨m - 1, by omega⟩
          obtain ⟨v, hcell⟩ := hbuf.cell (m := m) (by omega)
          have hfree := hbuf.free m
          have hb2 := hbuf.step (m := m) (c := dg (q % 10)) (x := 48 + (q : Int) % 10) (by omega) (by rw [dg_toInt (by omega)]; omega)
          by_cases hz : q / 10 = 0
          · have hz2 : (((q : Int) / 10) == 0) = true := by simp; omega
            have HE : Hid (text u j = dg (q % 10) :: txt) := done_eq HT hz
            obtain ⟨i0, hi, hi0, hi1, hi2⟩ := info_parts Try.info5
            have hnews := hb2.news (m := m) (by simp; omega)
            have hol := hb2.olds holds
            have hsz := hb2.2.size
            have hfb := hb2.2
            rw [← HE.out] at hnews
            have htl : (text u j).length = 40 - m := by rw [HE.out]; simp; omega
            have hbl : (byteCells (text u j)).length = (40 - m) * 1 := by rw [byteCells_len, htl]; omega
            have hsl := slice_buf w.heap.size m (by omega)
            clear hb2
            go_wp2_with (at_builtin; refine wpList_append_grows _ rfl (.tmp 41) (.tmp 43) 26 rfl 5 i0 (.int .u8 0) 1 1 Try.underlying26 hi hi0 hi1 hi2 rfl (by decide) ao n n olds rfl (fun h => ⟨hnone h, hnone h⟩) (by omega) hol ⟨w.heap.size, m, none⟩ (40 - m) (40 - m) (byteCells (text u j)) rfl hbl hnews (byteCells_one _) (by omega) (by unfold maxLen; omega) (by omega) ?_; intro v' w1 hown hgrow)
            go_ret
            exact ⟨v', rfl, by rw [htl]; exact ownsRow_base hown hsz, hfb.grown hgrow hsz (fun k h => by cases h)⟩
          · have hz2 : (((q : Int) / 10) == 0) = false := by simp; omega
            obtain ⟨k', hk', HT'⟩ := more_eq HT hk hz
            go_wp2_with fail
            go_roundw
            case rel => exact ⟨q / 10, m, k', _, by omega, by simp; omega, hk', rfl, by go_num, HT', hb2⟩
            case measure => simp [intOf]; omega

/-- the door -/
theorem door (ao : Option Addr) (n u p : Nat) (olds : List Value) (w : World) (hn : n ≤ 65536) (hu : u ≤ 9223372036854775807) (hp : p ≤ 38)
    (hnone : ao = none → n = 0) (hlo : olds.length = n) (holds : ∀ b, ao = some b → ∀ j v, olds[j]? = some v → w.cell? (b.add j) = some v) :
    Calls Try.prog 15 #[.slice ao n n, .int .i64 u, .int .u8 p] w fun e w' => ∃ v, e = .returned v ∧ w'.ownsRow w.heap.size 5 1 v (n + (text u p).length) (olds ++ byteCells (text u p)) ∧ Below w.heap.size w w' := by
  go_enter Try.func15, Try.ntmps15
  go_wp2_with (go_at_call 21; refine (inner ao n u p olds _ hn hu hp hnone hlo holds).mono ?_; rintro e w' ⟨v, rfl, hown, hb⟩)
  go_ret
  exact ⟨v, rfl, hown, hb⟩

end Go.Proofs.Qxb6603004a.Units
