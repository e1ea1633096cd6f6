/-
  zzBuild: the columns and the key.
-/
import Derived.Test.Qxb6001845aModsItoa
import Derived.Deep.RegionWith
namespace Go.Proofs.Qxb6001845aMods
open Go.RowKit

theorem Trym.info36 : (Trym.prog.info? 36).map (fun i => (i.zero, i.size, i.bytes)) = some (some (.pointer none), 1, 8) := by kernel_rfl

/-- The element that a round reads. -/
theorem Ints.at {w : World} {a : Option Addr} {n : Nat} {zs : List Int} (h : Ints w a n zs) {k : Nat} (hk : k < n) :
    ∃ b off z, a = some ⟨b, off, none⟩ ∧ Hid (z = zs.getD k 0) ∧ w.cell? ⟨b, off + k, none⟩ = some (.int .i64 z) := by
  obtain ⟨rfl, h⟩ := h
  rcases h with rfl | ⟨b, off, rfl, hc⟩
  · simp at hk
  · exact ⟨b, off, _, rfl, rfl, hc k hk⟩

/-- A column at the head of block b: its name and its kind. -/
structure Col (w : World) (b : Nat) (nm : ByteArray) (kd : Int) : Prop where
  c0 : w.cell? ⟨b, 0, none⟩ = some (.string nm)
  c1 : w.cell? ⟨b, 1, none⟩ = some (.int .i64 kd)

theorem Col.of_block {w w' : World} {b : Nat} {nm : ByteArray} {kd : Int} (h : Col w b nm kd) (hb : w'.heap[b]? = w.heap[b]?) : Col w' b nm kd :=
  ⟨(World.cell?_of_block (w := w) hb).trans h.c0, (World.cell?_of_block (w := w) hb).trans h.c1⟩

/-- The first k columns, by the row's cells xs: column i is named by i and has the kind zs[i]. -/
def ColsTo (w : World) (g : Nat) (zs : List Int) (xs : List Value) (k : Nat) : Prop :=
  ∀ i, i < k → ∃ b nm, xs[i]? = some (.pointer (some ⟨b, 0, none⟩)) ∧ b ≠ g ∧ b < w.heap.size ∧ Col w b nm (zs.getD i 0) ∧ val (nm.data.toList.drop 1) = i

theorem ColsTo.kept {w w' : World} {g : Nat} {zs : List Int} {xs : List Value} {k : Nat} (h : ColsTo w g zs xs k) (hb : Below w.heap.size w w') : ColsTo w' g zs xs k := fun i hi => by
  obtain ⟨b, nm, h1, h2, h3, h4, h5⟩ := h i hi
  exact ⟨b, nm, h1, h2, Nat.lt_of_lt_of_le h3 hb.size, h4.of_block (hb.block b h3), h5⟩

/-- A column's block, as zzBuild lays it. -/
def colObj (nm : ByteArray) (kd : Int) : Obj := .cells #[.string nm, .int .i64 kd, .string ⟨#[]⟩, .int .i64 0, .int .i64 0, .int .i64 0, .bool false, .bool false, .int .i64 0, .string ⟨#[]⟩, .string ⟨#[]⟩, .int .i64 0, .int .i64 0] 42

theorem name_val (s : ByteArray) : ((⟨#[99]⟩ : ByteArray) ++ s).data.toList.drop 1 = s.data.toList := by
  simp [ByteArray.data_append]

theorem cols_step {wr w2 : World} {base g n k : Nat} {zs : List Int} {xs : List Value} {s : ByteArray} {z : Int} (hown : wr.ownsRow base 36 1 (.slice (some ⟨g, 0, none⟩) n n) n xs) (hcols : ColsTo wr g zs xs k)
    (hb2 : Below wr.heap.size wr w2) (hg : g < wr.heap.size) (hk : k < n) (hv : val s.data.toList = k) (hz : z = zs.getD k 0) :
    ((w2.setCell ⟨g, k, none⟩ (.pointer (some ⟨w2.heap.size, 0, none⟩))).alloc (colObj (⟨#[99]⟩ ++ s) z)).ownsRow base 36 1 (.slice (some ⟨g, 0, none⟩) n n) n (xs.set k (.pointer (some ⟨w2.heap.size, 0, none⟩))) ∧
    ColsTo ((w2.setCell ⟨g, k, none⟩ (.pointer (some ⟨w2.heap.size, 0, none⟩))).alloc (colObj (⟨#[99]⟩ ++ s) z)) g zs (xs.set k (.pointer (some ⟨w2.heap.size, 0, none⟩))) (k + 1) := by
  have hxl : k < xs.length := by have := hown.1; omega
  have hz2 := hb2.size
  refine ⟨((owns_below hown hb2).stored k _).1.alloc _, fun i hi => ?_⟩
  by_cases e : i = k
  · subst e
    refine ⟨w2.heap.size, ⟨#[99]⟩ ++ s, by simp [hxl], by omega, by simp, ⟨?_, ?_⟩, by rw [name_val]; exact hv⟩
    · rw [colObj, World.cell?_alloc_at _ _ _ _ (by simp)]; rfl
    · rw [colObj, World.cell?_alloc_at _ _ _ _ (by simp), hz]; rfl
  · obtain ⟨b, nm, h1, h2, h3, h4, h5⟩ := hcols i (by omega)
    refine ⟨b, nm, by rw [List.getElem?_set_ne (by omega)]; exact h1, h2, by simp; omega, h4.of_block ?_, h5⟩
    rw [Below.heap_alloc _ _ _ (by simp; omega), Below.heap_setCell _ _ _ _ h2, hb2.block b h3]

/-- Two owned rows of other element types lie in other blocks. -/
theorem rows_apart {w : World} {base base' : Nat} {e e' : TypeId} {v v' : Value} {n n' : Nat} {xs xs' : List Value} (h : w.ownsRow base e 1 v n xs) (h' : w.ownsRow base' e' 1 v' n' xs') (he : e ≠ e') : v'.ownBlock = none ∨ v'.ownBlock ≠ v.ownBlock := by
  rcases h'.2 with ⟨rfl, _⟩ | ⟨g', cap', cur', rfl, _, hg', _⟩
  · exact .inl rfl
  · right
    rcases h.2 with ⟨rfl, _⟩ | ⟨g, cap, cur, rfl, _, hg, _⟩
    · simp [Value.ownBlock]
    · simp only [Value.ownBlock, ne_eq, Option.some.injEq]
      intro e2
      subst e2
      rw [hg] at hg'
      simp at hg'
      exact he hg'.2

theorem below_grown {B : Nat} {a w w' : World} {v : Value} {base : Nat} {e : TypeId} {n : Nat} {xs : List Value} (h : Below B a w) (hg : w.grownBy w' v.ownBlock) (ho : w.ownsRow base e 1 v n xs) (hB : B ≤ base) (hs : B ≤ w.heap.size) : Below B a w' :=
  h.grown hg hs (fun k hk => Nat.le_trans hB (ho.lt k hk).1)

set_option maxHeartbeats 1000000 in
/-- zzBuild: the columns (column i named by i, of kind zs[i]), and a key made of some of them. -/
theorem build_any (a0 : Option Addr) (n0 c0 : Nat) (zs : List Int) (a1 : Option Addr) (n1 c1 : Nat) (ps : List Int) (w : World) (h0 : Ints w a0 n0 zs) (h1 : Ints w a1 n1 ps) (l0 : n0 ≤ 65536) (l1 : n1 ≤ 65536) :
    Calls Trym.prog 10 #[.slice a0 n0 c0, .slice a1 n1 c1] w fun e w' => ∃ (kv vv : Value) (xs : List Value) (qs : List Nat),
      e = .returned (.tuple #[.slice (some ⟨w.heap.size, 0, none⟩) n0 n0, kv, vv]) ∧ w'.ownsRow w.heap.size 36 1 (.slice (some ⟨w.heap.size, 0, none⟩) n0 n0) n0 xs ∧ ColsTo w' w.heap.size zs xs n0 ∧
      (∀ q ∈ qs, q < n0) ∧ w'.ownsRow w.heap.size 36 1 kv qs.length (qs.map fun q => xs.getD q undef) ∧ Below w.heap.size w w' := by
  obtain ⟨i0, hi, hz0, hz1, hz2⟩ := info_parts Trym.info36
  obtain ⟨j0, hj, hy0, hy1, hy2⟩ := info_parts Trym.info3
  go_enter Trym.func10, Trym.ntmps10
  go_wp2_with (at_make; refine wpList_make_full _ rfl _ _ 30 rfl w.heap.size 36 i0 (.pointer none) 1 Trym.underlying30 hi hz0 hz1 _ _ _ _ n0 rfl rfl rfl rfl ?b1 ?b2 ?b3 ?_)
  case b1 => rw [hz2]; omega
  case b2 => unfold maxLen; omega
  case b3 => exact Nat.le_refl _
  intro w1 hown hgrow
  have hb1 : Below w.heap.size w w1 := (Below.refl _ _).grown hgrow (Nat.le_refl _) (by simp)
  have HI : Hid (Trym.prog.info? 36 = some i0 ∧ i0.zero = some (.pointer none) ∧ i0.size = 1 ∧ i0.bytes = 8) := ⟨hi, hz0, hz1, hz2⟩
  have HJ : Hid (Trym.prog.info? 3 = some j0 ∧ j0.zero = some (.int .i64 0) ∧ j0.size = 1 ∧ j0.bytes = 8) := ⟨hj, hy0, hy1, hy2⟩
  clear hgrow hi hz0 hz1 hz2 hj hy0 hy1 hy2
  go_wp2
  go_loopw [8] (fun i wr => ∃ (k : Nat) (xs : List Value), k ≤ n0 ∧ i = .int .i64 k ∧ wr.ownsRow w.heap.size 36 1 (.slice (some ⟨w.heap.size, 0, none⟩) n0 n0) n0 xs ∧ ColsTo wr w.heap.size zs xs k ∧ Below w.heap.size w wr) (fun i _ => n0 - (intOf i).toNat)
  case atStart => exact ⟨0, _, Nat.zero_le _, rfl, hown, fun i hi => by omega, hb1⟩
  case round =>
    obtain ⟨k, xs, hk, rfl, hown, hcols, hb⟩ := hrel
    clear hb1
    by_cases hlt : k < n0
    · obtain ⟨b, off, z, rfl, hz, hc⟩ := (h0.below hb).at hlt
      have hxl : k < xs.length := by have := hown.1; omega
      have hcg : wr.cell? ⟨w.heap.size, k, none⟩ = some xs[k] := by
        rw [hown.cellAt k (by omega), List.getElem?_eq_getElem hxl]
      generalize xs[k] = u at hcg
      have hfr := hown.frozenAt k
      have hkn : (k : Int) < (n0 : Int) := by omega
      have hbl := cell_lt hc
      have hgl : w.heap.size < wr.heap.size := cell_lt hcg
      go_wp2
      go_region_with (go_at_call 17; refine (itoa k _ (by omega)).mono ?_; rintro e w2 ⟨⟨s, rfl, hv0, hsz⟩, hb2⟩; have hv : Hid (val s.data.toList = k) := hv0; clear hv0; have hc2 := (hb2.cell (p := ⟨b, off + k, none⟩) hbl).trans hc; have hcg2 := (hb2.cell (p := ⟨w.heap.size, k, none⟩) hgl).trans hcg; have hfr2 := (hb2.frozen (p := ⟨w.heap.size, k, none⟩) hgl).trans hfr; have hgl2 : w.heap.size < w2.heap.size := Nat.lt_of_lt_of_le hgl hb2.size; have hq : ((⟨#[99]⟩ : ByteArray).size + s.size > 9223372036854775807) = False := by (show (1 + s.size > _) = False; simp; omega))
      all_goals
        have hb2 : Below wr.heap.size wr w2 := (Below.refl wr.heap.size wr).drew.trans hb2
        have hst := cols_step (s := s) hown hcols hb2 hgl hlt hv.out hz.out
        have hbs := ((hb.trans (hb2.mono hb.size)).setCell (p := ⟨w.heap.size, k, none⟩) (Nat.le_refl _) (.pointer (some ⟨w2.heap.size, 0, none⟩))).alloc (by simp; omega) (colObj (⟨#[99]⟩ ++ s) z)
        clear hcols hown
        go_wp2
        go_roundw
        case rel => exact ⟨k + 1, _, by omega, by go_num, hst.1, hst.2, hbs⟩
        case measure => simp [intOf]; omega
    · obtain rfl : k = n0 := by omega
      obtain ⟨wo, rfl⟩ : ∃ wo : World, wo = wr := ⟨_, rfl⟩
      have h1 := h1.below hb
      clear hlt
      go_wp2
      go_loopw [9, 10, 11] (fun kv vv j wr => ∃ (m : Nat) (qs : List Nat) (vs : List Value), m ≤ n1 ∧ j = .int .i64 m ∧ qs.length ≤ m ∧ vs.length ≤ m ∧ (∀ q ∈ qs, q < k) ∧ wr.ownsRow wo.heap.size 36 1 kv qs.length (qs.map fun q => xs.getD q undef) ∧ wr.ownsRow wo.heap.size 3 1 vv vs.length vs ∧ Below wo.heap.size wo wr) (fun _ _ j _ => n1 - (intOf j).toNat)
      case atStart => exact ⟨0, [], [], Nat.zero_le _, rfl, Nat.le_refl _, Nat.le_refl _, by simp, World.ownsRow_nil _ _ _ _, World.ownsRow_nil _ _ _ _, Below.refl _ _⟩
      case round =>
        obtain ⟨m, qs, vs, hm, rfl, hqs, hvs, hq, ok, ov, hbo⟩ := hrel
        by_cases hlt : m < n1
        · obtain ⟨b, off, p, rfl, hp, hc⟩ := (h1.below hbo).at hlt
          by_cases hpk : 0 ≤ p ∧ p < k
          · obtain ⟨p, rfl⟩ : ∃ q : Nat, p = q := ⟨p.toNat, by omega⟩
            obtain ⟨hp0, hp1⟩ := hpk
            have hp2 : p < k := by omega
            obtain ⟨bb, nm, hx1, hx2, hx3, hx4, hx5⟩ := hcols p hp2
            have hcc : wr.cell? ⟨w.heap.size, p, none⟩ = some (.pointer (some ⟨bb, 0, none⟩)) := by
              rw [hbo.cell (p := ⟨w.heap.size, p, none⟩) (hown.lt _ rfl).2, hown.cellAt p (by omega)]; exact hx1
            have hb0 := hbo.size
            go_wp2_with (at_builtin; refine wpList_append_own _ rfl (.tmp 52) (.tmp 57) 30 rfl wo.heap.size 36 i0 (.pointer none) 1 8 Trym.underlying30 HI.out.1 HI.out.2.1 HI.out.2.2.1 HI.out.2.2.2 rfl (by decide) _ qs.length (qs.map fun q => xs.getD q undef) rfl (ok.alloc _) ⟨wr.heap.size, 0, none⟩ 1 1 [.pointer (some ⟨bb, 0, none⟩)] rfl rfl ?c1 ?c2 ?c3 ?c4 ?c5 ?_)
            case c1 =>
              intro j u hj
              match j, hj with
              | 0, hj => simp at hj; subst hj; simp [Addr.add]
            case c2 => intro u hu; simp at hu; subst hu; rfl
            case c3 => unfold maxLen; omega
            case c4 => omega
            case c5 => simp; omega
            intro v1 y1 o1 g1 _
            have okA := ok.alloc (.cells #[.pointer (some ⟨bb, 0, none⟩)] 36)
            have ovA := (ov.alloc (.cells #[.pointer (some ⟨bb, 0, none⟩)] 36)).kept g1 (rows_apart okA (ov.alloc _) (by decide))
            have hbA := below_grown (hbo.alloc hb0 (.cells #[.pointer (some ⟨bb, 0, none⟩)] 36)) g1 okA (Nat.le_refl _) (by simp; omega)
            have hl1 : xs.getD p undef = .pointer (some ⟨bb, 0, none⟩) := by simp [hx1]
            have o1 : y1.ownsRow wo.heap.size 36 1 v1 (qs ++ [p]).length ((qs ++ [p]).map fun q => xs.getD q undef) := by
              rw [List.map_append, List.length_append, List.map_singleton, hl1]
              simpa using o1
            have hz1 := hbA.size
            clear g1 okA hl1 ok hcc
            go_wp2_with (at_builtin; refine wpList_append_own _ rfl (.tmp 59) (.tmp 61) 27 rfl wo.heap.size 3 j0 (.int .i64 0) 1 8 Trym.underlying27 HJ.out.1 HJ.out.2.1 HJ.out.2.2.1 HJ.out.2.2.2 rfl (by decide) _ vs.length vs rfl (ovA.alloc _) ⟨y1.heap.size, 0, none⟩ 1 1 [.int .i64 p] rfl rfl ?d1 ?d2 ?d3 ?d4 ?d5 ?_)
            case d1 => exact cell_one_new _ _ _
            case d2 => intro u hu; simp at hu; subst hu; rfl
            case d3 => unfold maxLen; omega
            case d4 => omega
            case d5 => simp; omega
            intro v2 y2 o2 g2 _
            have ovB := ovA.alloc (.cells #[.int .i64 p] 3)
            have okB := (o1.alloc (.cells #[.int .i64 p] 3)).kept g2 (rows_apart ovB (o1.alloc _) (by decide))
            have hbB := below_grown (hbA.alloc hz1 (.cells #[.int .i64 p] 3)) g2 ovB (Nat.le_refl _) (by simp; omega)
            have hql : (qs ++ [p]).length ≤ m + 1 := by simp; omega
            have hvl : (vs ++ [Value.int .i64 p]).length ≤ m + 1 := by simp; omega
            have hqq : ∀ q ∈ qs ++ [p], q < k := by
              intro q hq'
              rcases List.mem_append.1 hq' with h | h
              · exact hq q h
              · simp at h; omega
            have o2 : y2.ownsRow wo.heap.size 3 1 v2 (vs ++ [Value.int .i64 p]).length (vs ++ [Value.int .i64 p]) := by
              simpa using o2
            clear g2 ovA ovB ov o1 hbA hbo
            go_wp2
            go_roundw
            case rel => exact ⟨m + 1, qs ++ [p], _, by omega, by go_num, hql, hvl, hqq, okB, o2, hbB⟩
            case measure => simp [intOf]; omega
          · go_wp2
            all_goals
              go_roundw
              case rel => exact ⟨m + 1, qs, vs, by omega, by go_num, by omega, by omega, hq, ok, ov, hbo⟩
              case measure => simp [intOf]; omega
        · have hown := owns_below hown hbo
          have hcols := hcols.kept hbo
          have hbw := hb.trans (hbo.mono hb.size)
          have ok' : wr.ownsRow w.heap.size 36 1 u9 qs.length (qs.map fun q => xs.getD q undef) := by
            obtain ⟨r1, r2⟩ := ok
            refine ⟨r1, ?_⟩
            rcases r2 with r2 | ⟨g, cap, cur, q1, q2, q3⟩
            · exact .inl r2
            · exact .inr ⟨g, cap, cur, q1, Nat.le_trans hb.size q2, q3⟩
          go_wp2
          go_ret3
          exact ⟨u9, u10, xs, qs, rfl, hown, hcols, hq, ok', hbw⟩

end Go.Proofs.Qxb6001845aMods
