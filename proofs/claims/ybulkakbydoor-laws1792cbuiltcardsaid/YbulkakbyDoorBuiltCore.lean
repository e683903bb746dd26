/-
  THE WALK OF LawS1792CBuilt.
-/
import Derived.Test.YbulkakbyDoorWalk
import Derived.LaidEql
import Derived.Laws.AppendOwnNone
namespace Go.Proofs.YbulkakbyDoor.Built
open Go.RowKit
set_option linter.unusedVariables false
attribute [local go_sem ↓] Go.wp_at_zero Go.wp_at_succ

theorem info5 : (Ybad.prog.info? 5).map (fun i => (i.zero, i.size, i.bytes)) = some (some (.int .u8 0), 1, 1) := by kernel_rfl
theorem comp36 : (Ybad.prog.info? 36).map (·.comparable) = some true := by kernel_rfl
theorem size56 : (Ybad.prog.info? 56).map (·.size) = some 1 := by kernel_rfl

theorem neq_same (a : Addr) (w : World) : (binOp .neq 24 (.iface 36 (.pointer (some a))) (.iface 36 (.pointer (some a)))).run Ybad.prog w = .ok (.bool false) w := by
  obtain ⟨i, hi, hc⟩ := Option.map_eq_some_iff.1 comp36
  obtain ⟨j, hj, _⟩ := Option.map_eq_some_iff.1 size56
  simp only [binOp]
  simp [Op.equal, Op.maxDepth, run_equalIn_iface_ptr_same w 9998 a Ybad.underlying24 Ybad.underlying36 hi hc hj]

/-- An option that came in: its code, its data's slice, its data. -/
structure Opt where
  code : Int
  a : Option Addr
  len : Nat
  cap : Nat
  zs : List Int

/-- What is known of it in the world w. -/
structure Opt.Ok (o : Opt) (w : World) : Prop where
  c0 : 0 ≤ o.code
  c1 : o.code ≤ 65535
  ln : o.zs.length = o.len
  nil : o.a = none → o.len = 0 ∧ o.cap = 0
  cells : ∀ ad, o.a = some ad → ∀ j u, (o.zs.map (Value.int .u8))[j]? = some u → w.cell? (ad.add j) = some u
  bytes : ∀ z ∈ o.zs, 0 ≤ z ∧ z ≤ 255

/-- The octets that the law lays for it. -/
def Opt.lay (o : Opt) : List Int := opt (o.code / 256) (o.code % 256) ((o.len : Int) / 256) ((o.len : Int) % 256) o.zs
def flat (O : Nat → Opt) (k : Nat) : List Int := ((List.range k).map fun i => (O i).lay).flatten
theorem flat_succ (O : Nat → Opt) (k : Nat) : flat O (k + 1) = flat O k ++ (O k).lay := by
  unfold flat; rw [List.range_succ]; simp

theorem cells_new (w : World) (arr : List Value) (t : TypeId) (n : Nat) (hn : n = w.heap.size) : ∀ j u, arr[j]? = some u → (w.alloc (.cells arr.toArray t)).cell? ((⟨n, 0, none⟩ : Addr).add j) = some u := by
  intro j u hu
  rw [Addr.add_lit, Nat.zero_add, World.cell?_alloc_at _ _ _ _ hn]
  simpa using hu

theorem own_step {w2 : World} {B : Nat} {v : Value} {xs zs : List Int} {c : Int} {a : Option Addr} {n cp : Nat} (hz : zs.length = n)
    (h : w2.ownsRow B 5 1 v (xs.length + 4 + n) (xs.map (Value.int .u8) ++ Value.int .u8 (c / 256) :: .int .u8 (c % 256) :: .int .u8 ((n : Int) / 256) :: .int .u8 ((n : Int) % 256) :: zs.map (Value.int .u8))) :
    w2.ownsRow B 5 1 v (xs ++ (Opt.mk c a n cp zs).lay).length ((xs ++ (Opt.mk c a n cp zs).lay).map (Value.int .u8)) := by
  have e1 : (xs ++ (Opt.mk c a n cp zs).lay).length = xs.length + 4 + n := by simp [Opt.lay, opt]; omega
  have e2 : (xs ++ (Opt.mk c a n cp zs).lay).map (Value.int .u8) = xs.map (Value.int .u8) ++ Value.int .u8 (c / 256) :: .int .u8 (c % 256) :: .int .u8 ((n : Int) / 256) :: .int .u8 ((n : Int) % 256) :: zs.map (Value.int .u8) := by simp [Opt.lay, opt]
  rw [e1, e2]; exact h

theorem own_step0 {w2 : World} {B : Nat} {v : Value} {xs : List Int} {c : Int}
    (h : w2.ownsRow B 5 1 v (xs.length + 4) (xs.map (Value.int .u8) ++ [Value.int .u8 (c / 256), .int .u8 (c % 256), .int .u8 0, .int .u8 0])) :
    w2.ownsRow B 5 1 v (xs ++ (Opt.mk c none 0 0 []).lay).length ((xs ++ (Opt.mk c none 0 0 []).lay).map (Value.int .u8)) := by
  have e1 : (xs ++ (Opt.mk c none 0 0 []).lay).length = xs.length + 4 := by simp [Opt.lay, opt]
  have e2 : (xs ++ (Opt.mk c none 0 0 []).lay).map (Value.int .u8) = xs.map (Value.int .u8) ++ [Value.int .u8 (c / 256), .int .u8 (c % 256), .int .u8 0, .int .u8 0] := by simp [Opt.lay, opt]
  rw [e1, e2]; exact h

/-- The slice value that is owned, as checkOptions is handed it. -/
theorem at_owned {w : World} {B : Nat} {v : Value} {zs : List Int} (h : w.ownsRow B 5 1 v zs.length (zs.map (Value.int .u8))) :
    ∃ g c, zs.length ≤ c ∧ c ≤ 9223372036854775807 ∧ At v g 0 zs c 0 ∧ Bytes w g 0 zs ∧ (0 < zs.length → v = .slice (some ⟨g, 0, none⟩) zs.length c) := by
  have h' := h
  rcases h.2 with ⟨rfl, h0⟩ | ⟨g, c, cur, rfl, hg, hh, hn, hc, hs, ht⟩
  · refine ⟨0, 0, by omega, by omega, ⟨none, 0, ?_, fun h => by omega⟩, fun i hi => by omega, fun h => by omega⟩
    rw [h0]
  · refine ⟨g, c, hn, by unfold maxLen at hc; omega, ⟨_, c, rfl, fun _ => ⟨rfl, rfl⟩⟩, fun i hi => ?_, fun _ => rfl⟩
    rw [Nat.zero_add, h'.cellAt i (by omega)]
    simp [List.getD, hi]

theorem lay_ok {o : Opt} {w : World} (h : o.Ok w) (hn : o.len ≤ 1024) : ∃ c0 c1 l0 l1 data, o.lay = opt c0 c1 l0 l1 data ∧ l0 * 256 + l1 = (data.length : Int) :=
  ⟨_, _, _, _, _, rfl, by rw [h.ln]; omega⟩

theorem lay_bytes {o : Opt} {w : World} (h : o.Ok w) (hn : o.len ≤ 1024) : ∀ z ∈ o.lay, 0 ≤ z ∧ z ≤ 255 := by
  intro z hz
  have c0 := h.c0
  have c1 := h.c1
  simp [Opt.lay, opt] at hz
  rcases hz with rfl | rfl | rfl | rfl | hz
  · omega
  · omega
  · omega
  · omega
  · exact h.bytes z hz

theorem getD_range {zs : List Int} (h : ∀ z ∈ zs, 0 ≤ z ∧ z ≤ 255) (j : Nat) : 0 ≤ zs.getD j 0 ∧ zs.getD j 0 ≤ 255 := by
  by_cases hj : j < zs.length
  · have e : zs.getD j 0 = zs[j] := by simp [List.getD, hj]
    rw [e]; exact h _ (List.getElem_mem hj)
  · simp [List.getD, show zs.length ≤ j by omega]

theorem flat_facts (O : Nat → Opt) (w : World) (len : Nat) (hok : ∀ i, i < len → (O i).Ok w ∧ (O i).len ≤ 1024) :
    W (flat O len) 0 = true ∧ (0 < (flat O len).length → W ((flat O len).dropLast) 0 = false) ∧ ∀ z ∈ flat O len, 0 ≤ z ∧ z ≤ 255 := by
  have hl : ∀ o ∈ (List.range len).map fun i => (O i).lay, ∃ c0 c1 l0 l1 data, o = opt c0 c1 l0 l1 data ∧ l0 * 256 + l1 = (data.length : Int) := by
    intro o ho
    obtain ⟨i, hi, rfl⟩ := List.mem_map.1 ho
    obtain ⟨h1, h2⟩ := hok i (List.mem_range.1 hi)
    exact lay_ok h1 h2
  refine ⟨?_, fun hp => ?_, fun z hz => ?_⟩
  · show wf _ = true
    have := wf_opts _ [] hl
    rw [List.append_nil] at this
    exact this.trans wf_nil
  · show wf _ = false
    refine wf_cut _ hl ?_
    intro e
    unfold flat at hp
    rw [e] at hp
    simp at hp
  · obtain ⟨o, ho, hzo⟩ := List.mem_flatten.1 hz
    obtain ⟨i, hi, rfl⟩ := List.mem_map.1 ho
    obtain ⟨h1, h2⟩ := hok i (List.mem_range.1 hi)
    exact lay_bytes h1 h2 z hzo

theorem four_one (x0 x1 x2 x3 : Int) : ∀ u ∈ [Value.int .u8 x0, Value.int .u8 x1, Value.int .u8 x2, Value.int .u8 x3], u.oneCell' = true := by
  intro u hu
  simp at hu
  rcases hu with rfl | rfl | rfl | rfl <;> rfl

/-- The text cut short by one octet. -/
theorem cut_call (g c n : Nat) (xs : List Int) (ae : Addr) (hn : xs.length = n) (hn0 : 0 < n) (hnl : n ≤ 263168) (hc0 : n ≤ c) (hc1 : c ≤ 9223372036854775807) (hb : ∀ z ∈ xs, 0 ≤ z ∧ z ≤ 255) (hW : W xs.dropLast 0 = false) (w : World)
    (hby : Bytes w g 0 xs) (he : w.cell? ⟨0, 0, none⟩ = some (.iface 36 (.pointer (some ae)))) :
    Calls Ybad.prog 5 #[.slice (some ⟨g, 0, none⟩) (n - 1) c] w fun e w' => e = .returned (.iface 36 (.pointer (some ae))) ∧ Below w.heap.size w w' := by
  have hl : xs.dropLast.length = n - 1 := by simp [hn]
  refine check_any g 0 c xs.dropLast ae _ _ w (by omega) (by omega) hc1 (getD_range fun z hz => hb z ((List.dropLast_sublist xs).mem hz)) (fun i hi => ?_) he (by show _ = _; rw [hW]; rfl) ⟨some ⟨g, 0, none⟩, c, by rw [hl, Nat.sub_zero], fun _ => ⟨rfl, rfl⟩⟩
  rw [hby i (by omega)]
  have h1 : i < xs.dropLast.length := hi
  have h2 : i < xs.length := by omega
  rw [List.getD, List.getD, List.getElem?_eq_getElem h1, List.getElem?_eq_getElem h2, List.getElem_dropLast]

set_option maxRecDepth 10000 in
set_option maxHeartbeats 1000000 in
theorem core (b off len cap : Nat) (O : Nat → Opt) (ae : Addr) (w : World) (hl : len ≤ 256) (hl0 : 0 < len)
    (hs : ∀ i, i < len → w.cell? ⟨b, off + i * 2, none⟩ = some (.int .u16 (O i).code) ∧ w.cell? ⟨b, off + i * 2 + 1, none⟩ = some (.slice (O i).a (O i).len (O i).cap) ∧ (O i).Ok w)
    (he : w.cell? ⟨0, 0, none⟩ = some (.iface 36 (.pointer (some ae)))) :
    Calls Ybad.prog 4 #[.slice (some ⟨b, off, none⟩) len cap] w fun e w' => e = .returned (.bool true) ∧ Below w.heap.size w w' := by
  obtain ⟨i0, hi, hz0, hz1, hz2⟩ := info_parts info5
  have hbw : b < w.heap.size := World.block_lt_of_cell? w _ (hs 0 hl0).1
  go_enter Ybad.func4, Ybad.ntmps4
  go_wp2_with fail
  go_loopg [3] len (fun k i wr => w = wr ∧ ∃ j : Nat, k + j = len ∧ i = .int .i64 j ∧ Hid (∀ t, t < j → (O t).len ≤ 1024))
  case atStart => exact ⟨rfl, 0, by omega, rfl, fun t ht => absurd ht (by omega)⟩
  case round =>
    obtain ⟨rfl, j, hk, rfl, HB⟩ := hrel
    by_cases hj : j < len
    · have s1 := (hs j hj).2.1
      have hlt' : (j : Int) < (len : Int) := by omega
      by_cases hbig : 1024 < (O j).len
      · go_wp2_with fail
        go_ret
        exact ⟨rfl, Below.refl _ _⟩
      · go_wp2_with fail
        go_roundg (len - (j + 1))
        case measure => omega
        case rel =>
          refine ⟨rfl, j + 1, by omega, by go_num, ?_⟩
          intro t ht
          by_cases h : t = j
          · subst h; omega
          · exact HB.out t (by omega)
    · have hall : Hid (∀ t, t < len → (O t).len ≤ 1024) := fun t ht => HB.out t (by omega)
      clear HB
      go_wp2_with fail
      go_loopg [4, 5] len (fun k v i wr => ∃ (j : Nat) (xs : List Int), k + j = len ∧ i = .int .i64 j ∧ Hid (xs = flat O j) ∧ xs.length ≤ j * 1028 ∧ wr.ownsRow w.heap.size 5 1 v xs.length (xs.map (Value.int .u8)) ∧ Below w.heap.size w wr)
      case atStart => exact ⟨0, [], by omega, rfl, rfl, by simp, World.ownsRow_nil _ _ _ _, Below.refl _ _⟩
      case round =>
        obtain ⟨j, xs, hk, rfl, HX, hxl, hown, hbel⟩ := hrel
        by_cases hj : j < len
        · obtain ⟨s0, s1, ok⟩ := hs j hj
          have hn := hall.out j hj
          obtain ⟨o, ho⟩ : ∃ o, O j = o := ⟨_, rfl⟩
          rw [ho] at s0 s1 ok hn
          have HO : Hid (O j = o) := ho
          clear ho
          obtain ⟨c, a, n, cp, zs⟩ := o
          have c0 : 0 ≤ c := ok.c0
          have c1 : c ≤ 65535 := ok.c1
          have hzl : zs.length = n := ok.ln
          have hn' : n ≤ 1024 := hn
          have e0 : wr.cell? ⟨b, off + j * 2, none⟩ = some (.int .u16 c) := by rw [hbel.cell (by exact hbw)]; exact s0
          have e1 : wr.cell? ⟨b, off + j * 2 + 1, none⟩ = some (.slice a n cp) := by rw [hbel.cell (by exact hbw)]; exact s1
          have hnil : a = none → n = 0 ∧ cp = 0 := ok.nil
          have hcl : ∀ ad, a = some ad → ∀ t u, (zs.map (Value.int .u8))[t]? = some u → w.cell? (ad.add t) = some u := ok.cells
          have hlt' : (j : Int) < (len : Int) := by omega
          have hsz := hbel.size
          clear s0 s1 ok hn hs hall
          cases a with
          | none =>
            obtain ⟨rfl, rfl⟩ := hnil rfl
            obtain rfl : zs = [] := List.eq_nil_of_length_eq_zero hzl
            clear hnil hcl
            go_wp2_with (at_builtin; refine wpList_append_own _ rfl (.tmp 37) (.tmp 50) 22 rfl w.heap.size 5 i0 (.int .u8 0) 1 1 Ybad.underlying22 hi hz0 hz1 hz2 rfl (by decide) _ _ _ (by rfl) ((hown.alloc _).alloc _) ⟨wr.heap.size + 1, 0, none⟩ 4 4 [_, _, _, _] (by rfl) (by rfl) (cells_new _ _ _ _ (by simp)) (four_one _ _ _ _) ?c3 ?c4 ?c5 ?_)
            case c3 => unfold maxLen; omega
            case c4 => omega
            case c5 => simp; omega
            intro v1 w1 hown1 hgr1 _
            have hlt := hown.lt
            have hb1 : Below w.heap.size w w1 := ((hbel.alloc (by omega) _).alloc (by simp; omega) _).grown hgr1 (by simp; omega) (fun k hk => (hlt k hk).1)
            have d1 : w1.cell? ⟨wr.heap.size, 1, none⟩ = some (.slice none 0 0) := by
              refine hgr1.cell ?_ (fun e => ?_)
              · rw [World.cell?_alloc_past _ _ _ (by simp), World.cell?_alloc_at _ _ _ _ rfl]; rfl
              · have := (hlt _ e.symm).2; simp at this
            clear hown hgr1 hbel e0 e1 hlt
            go_wp2_with (at_builtin; refine wpList_append_own_none rfl (.tmp 52) (.tmp 54) 22 rfl w.heap.size 5 i0 1 Ybad.underlying22 hi _ _ _ (by rfl) hown1 (by rfl) ?_)
            have OS := own_step0 hown1
            have HOS : Hid (xs ++ (Opt.mk c none 0 0 []).lay = flat O (j + 1) ∧ (xs ++ (Opt.mk c none 0 0 []).lay).length ≤ (j + 1) * 1028) := by
              refine ⟨?_, ?_⟩
              · rw [flat_succ, HO.out, HX.out]
              · simp [Opt.lay, opt]; omega
            clear hown1 d1
            generalize xs ++ (Opt.mk c none 0 0 []).lay = ys at OS HOS
            go_roundg (len - (j + 1))
            case measure => omega
            case rel => exact ⟨j + 1, ys, by omega, by go_num, HOS.out.1, HOS.out.2, OS, hb1⟩
          | some ad =>
            have hcl' := hcl ad rfl
            clear hnil hcl
            go_wp2_with (at_builtin; refine wpList_append_own _ rfl (.tmp 37) (.tmp 50) 22 rfl w.heap.size 5 i0 (.int .u8 0) 1 1 Ybad.underlying22 hi hz0 hz1 hz2 rfl (by decide) _ _ _ (by rfl) ((hown.alloc _).alloc _) ⟨wr.heap.size + 1, 0, none⟩ 4 4 [_, _, _, _] (by rfl) (by rfl) (cells_new _ _ _ _ (by simp)) (four_one _ _ _ _) ?c3 ?c4 ?c5 ?_)
            case c3 => unfold maxLen; omega
            case c4 => omega
            case c5 => simp; omega
            intro v1 w1 hown1 hgr1 _
            have hlt := hown.lt
            have hb1 : Below w.heap.size w w1 := ((hbel.alloc (by omega) _).alloc (by simp; omega) _).grown hgr1 (by simp; omega) (fun k hk => (hlt k hk).1)
            have d1 : w1.cell? ⟨wr.heap.size, 1, none⟩ = some (.slice (some ad) n cp) := by
              refine hgr1.cell ?_ (fun e => ?_)
              · rw [World.cell?_alloc_past _ _ _ (by simp), World.cell?_alloc_at _ _ _ _ rfl]; rfl
              · have := (hlt _ e.symm).2; simp at this
            have hsz1 := hb1.size
            have hcl1 : ∀ t u, (zs.map (Value.int .u8))[t]? = some u → w1.cell? (ad.add t) = some u := fun t u hu => by
              have h := hcl' t u hu
              rw [hb1.cell (World.block_lt_of_cell? w _ h)]; exact h
            clear hown hgr1 hbel e0 e1 hlt hcl'
            go_wp2_with (at_builtin; refine wpList_append_own _ rfl (.tmp 52) (.tmp 54) 22 rfl w.heap.size 5 i0 (.int .u8 0) 1 1 Ybad.underlying22 hi hz0 hz1 hz2 rfl (by decide) _ _ _ (by rfl) hown1 ad n cp (zs.map (Value.int .u8)) (by rfl) (by simp [hzl]) hcl1 (ints_oneCell _ _) ?c3 ?c4 ?c5 ?_)
            case c3 => unfold maxLen; omega
            case c4 => omega
            case c5 => omega
            intro v2 w2 hown2 hgr2 _
            have hb2 : Below w.heap.size w w2 := hb1.grown hgr2 hsz1 (fun k hk => (hown1.lt k hk).1)
            have OS := own_step (c := c) (a := some ad) (cp := cp) hzl hown2
            have HOS : Hid (xs ++ (Opt.mk c (some ad) n cp zs).lay = flat O (j + 1) ∧ (xs ++ (Opt.mk c (some ad) n cp zs).lay).length ≤ (j + 1) * 1028) := by
              refine ⟨?_, ?_⟩
              · rw [flat_succ, HO.out, HX.out]
              · simp [Opt.lay, opt]; omega
            clear hown2 hgr2 hown1 hb1 d1 hcl1
            generalize xs ++ (Opt.mk c (some ad) n cp zs).lay = ys at OS HOS
            go_wp2
            go_roundg (len - (j + 1))
            case measure => omega
            case rel => exact ⟨j + 1, ys, by omega, by go_num, HOS.out.1, HOS.out.2, OS, hb2⟩
        · have hjl : j = len := by omega
          subst hjl
          have FF := flat_facts O w j (fun i hi => ⟨(hs i hi).2.2, hall.out i hi⟩)
          rw [← HX.out] at FF
          obtain ⟨F1, F2, F3⟩ := FF
          obtain ⟨g, c, hc0, hc1, hat, hby, hform⟩ := at_owned hown
          have h0 : 0 < w.heap.size := World.block_lt_of_cell? w _ he
          have her : wr.cell? ⟨0, 0, none⟩ = some (.iface 36 (.pointer (some ae))) := by rw [hbel.cell (by exact h0)]; exact he
          have hxl' : xs.length ≤ 263168 := by omega
          have C1 := check_any g 0 c xs ae u4 .nilIface wr (by omega) hc0 hc1 (getD_range F3) hby her (by show _ = _; rw [F1]; rfl) hat
          by_cases hx0 : 0 < xs.length
          · have hv := hform hx0
            subst hv
            obtain ⟨n, hn⟩ : ∃ n, xs.length = n := ⟨_, rfl⟩
            rw [hn] at C1 hc0 hx0 hxl'
            rw [hn]
            have hlow : g < wr.heap.size := World.block_lt_of_cell? wr _ (hby 0 (by omega))
            have K := cut_call g c n xs ae hn hx0 hxl' hc0 hc1 F3 (F2 (by omega))
            have HB : Hid (Bytes wr g 0 xs ∧ xs.length = n) := ⟨hby, hn⟩
            have hi1 : (1 : Int) ≤ (n : Int) := by omega
            have hi0 : (0 : Int) < (n : Int) := by omega
            have hic : (n : Int) ≤ (c : Int) := by omega
            have hwr : IntKind.i64.wrap ((n : Int) - 1) = (n : Int) - 1 := by rw [IntKind.wrap_i64]; omega
            have ha0 : (0 : Int) ≤ (n : Int) - 1 := by omega
            have hac : (n : Int) - 1 ≤ (c : Int) := by omega
            have htn : ((n : Int) - 1).toNat = n - 1 := by omega
            have hneq := neq_same ae
            have hbsz := hbel.size
            clear F1 F2 F3 hown hat hby hform hs hall HX hn
            go_wp2_with fail
            refine C1.mono ?_
            rintro e w3 ⟨rfl, hb3⟩
            have hby3 : Bytes w3 g 0 xs := fun i hi => by rw [hb3.cell (by exact hlow)]; exact HB.out.1 i hi
            have he3 : w3.cell? ⟨0, 0, none⟩ = some (.iface 36 (.pointer (some ae))) := by rw [hb3.cell (by show 0 < wr.heap.size; omega)]; exact her
            have hb4 : Below w.heap.size w w3 := hbel.trans (hb3.mono hbsz)
            have K3 := K w3.drew (fun i hi => hby3 i hi) he3
            have h3s := hb4.size
            clear C1 K HB hby3 hb3 her hbel
            go_wp2_with fail
            go_region_held3 (fun w' => w'.cell? ⟨0, 0, none⟩ = some (.iface 36 (.pointer (some ae)))) (first | assumption | (rw [hb5.cell (by show 0 < w3.heap.size; omega)]; exact he3))
              (first | (go_at_call 5; refine K3.mono ?_; rintro e w5 ⟨rfl, hb5⟩))
            all_goals go_wp2_with fail
            go_ret
            exact ⟨rfl, hb4.drew.trans (hb5.mono h3s)⟩
          · obtain rfl : xs = [] := List.eq_nil_of_length_eq_zero (by omega)
            obtain ⟨a', c', rfl, _⟩ := hat
            clear F1 F2 F3 hown hby hform hs hall HX
            go_wp2_with fail
            refine C1.mono ?_
            rintro e w3 ⟨rfl, hb3⟩
            have hb4 : Below w.heap.size w w3 := hbel.trans (hb3.mono hbel.size)
            go_wp2
            go_ret
            exact ⟨rfl, hb4⟩

set_option maxRecDepth 10000 in
set_option maxHeartbeats 1000000 in
/-- No option at all. -/
theorem core0 (a : Option Addr) (cap : Nat) (ae : Addr) (w : World) (he : w.cell? ⟨0, 0, none⟩ = some (.iface 36 (.pointer (some ae)))) :
    Calls Ybad.prog 4 #[.slice a 0 cap] w fun e w' => e = .returned (.bool true) ∧ Below w.heap.size w w' := by
  have C1 := check_any 0 0 0 [] ae (.slice none 0 0) .nilIface w (by simp) (by simp) (by omega) (fun j => by simp) (fun i hi => absurd hi (by simp)) he rfl ⟨none, 0, rfl, fun h => absurd h (by simp)⟩
  go_enter Ybad.func4, Ybad.ntmps4
  go_wp2_with fail
  go_loopg [3] 0 (fun k i wr => w = wr ∧ i = .int .i64 0)
  case atStart => exact ⟨rfl, rfl⟩
  case round =>
    obtain ⟨rfl, rfl⟩ := hrel
    go_wp2_with fail
    go_loopg [4, 5] 0 (fun k v i wr => w = wr ∧ v = .slice none 0 0 ∧ i = .int .i64 0)
    case atStart => exact ⟨rfl, rfl, rfl⟩
    case round =>
      obtain ⟨rfl, rfl, rfl⟩ := hrel
      go_wp2_with fail
      refine C1.mono ?_
      rintro e w3 ⟨rfl, hb3⟩
      go_wp2
      go_ret
      exact ⟨rfl, hb3⟩
end Go.Proofs.YbulkakbyDoor.Built
