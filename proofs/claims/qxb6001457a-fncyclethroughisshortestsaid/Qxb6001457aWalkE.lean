import Derived.Test.Qxb6001457aWalkD
import Derived.Test.Qxb6001457aWalkA
import Derived.Test.Qxb6001457aBfs
import Derived.Maps.OwnSet
namespace Go.Proofs.Qxb6001457a
open Go.RowKit
open Go.Maps (int_keyed keyOf_int_mk)

theorem law3 : Maps.Keyed Try.prog 3 := int_keyed Try.underlying3
theorem zero3 (w : World) : (zeroValue 3).run Try.prog w = .ok (.int .i64 0) w := by kernel_rfl
theorem wfn (v : Nat) (h : v ≤ 4096) : (Lit.int .i64 (v : Int)).wf = true := WalkArith.wf_i64 (by omega)
theorem key3 (v : Nat) (h : v ≤ 4096) : keyOf Try.prog 3 (.int .i64 (v : Int)) = some (.int .i64 (v : Int)) := keyOf_int_mk Try.underlying3 (wfn v h)
theorem lit_ne {a b : Nat} (h : a ≠ b) : Lit.int .i64 (a : Int) ≠ Lit.int .i64 (b : Int) := fun e => h (by injection e; omega)

/-- The map 'reachedFrom': the nodes met but for s, each with whence it was met. -/
structure MapOk (wr : World) (mb s : Nat) (ord : List Nat) (par : Nat → Nat) (D : DataW Unit) : Prop where
  own : wr.ownsMap Try.prog 3 (plainElem Try.prog 3) mb ord.length D
  has : ∀ v : Nat, (Maps.has D (.int .i64 v) = true ↔ v ∈ ord ∧ v ≠ s)
  look : ∀ v : Nat, v ∈ ord → v ≠ s → D.atKey (.int .i64 v) (.lit (.int .i64 0)) = .lit (.int .i64 (par v))

theorem MapOk.start (w : World) (s : Nat) (par : Nat → Nat) : MapOk (w.alloc (.map #[] 0)) w.heap.size s [s] par (.map []) where
  own := (World.ownsMap_made w Try.prog 3 _).mono (by simp)
  has := fun v => by
    constructor
    · intro h; simp [Maps.has] at h
    · rintro ⟨h1, h2⟩; exact absurd (by simpa using h1) h2
  look := fun v h1 h2 => absurd (by simpa using h1) h2

theorem MapOk.kept {w w' : World} {mb s : Nat} {ord : List Nat} {par : Nat → Nat} {D : DataW Unit} (h : MapOk w mb s ord par D) {row : Option Nat} (hg : w.grownBy w' row) (hne : some mb ≠ row) : MapOk w' mb s ord par D :=
  ⟨h.own.kept hg hne, h.has, h.look⟩

theorem MapOk.put {w' : World} {mb s : Nat} {ord ord' : List Nat} {par : Nat → Nat} {D : DataW Unit} {i j : Nat} {w : World} (h : MapOk w mb s ord par D) (hj : j ∉ ord) (hjs : j ≠ s) (ho : ord' = ord ++ [j])
    (h' : w'.ownsMap Try.prog 3 (plainElem Try.prog 3) mb (ord.length + 1) (D.put (.int .i64 (j : Int)) (.lit (.int .i64 (i : Int))))) :
    MapOk w' mb s ord' (fun v => if v = j then i else par v) (D.put (.int .i64 (j : Int)) (.lit (.int .i64 (i : Int)))) := by
  subst ho
  refine ⟨by simpa using h', fun v => ?_, fun v hv hvs => ?_⟩
  · by_cases e : v = j
    · subst e
      rw [Maps.has_put_same (k := .int .i64 (v : Int)) h.own.isMap trivial]
      simp [hjs]
    · rw [Maps.has_put_other (lit_ne e), h.has v]
      simp [e]
  · by_cases e : v = j
    · subst e
      rw [Maps.atKey_put_same (k := .int .i64 (v : Int)) h.own.isMap trivial, if_pos rfl]
    · rw [Maps.atKey_put_other (lit_ne e), if_neg e]
      exact h.look v (by simpa [e] using hv) hvs

/-- Two blocks of different kinds are two. -/
theorem MapOk.apart {w : World} {mb s : Nat} {ord : List Nat} {par : Nat → Nat} {D : DataW Unit} (h : MapOk w mb s ord par D) {base : Nat} {e : TypeId} {v : Value} {xs : List Value} (hq : OwnsSeg w base e v xs) : some mb ≠ v.ownBlock := by
  obtain ⟨g, cur, hv, hh⟩ := hq.block
  obtain ⟨es, clock, hb, _⟩ := h.own
  rw [hv]
  intro e
  cases e
  rw [hb] at hh
  cases hh

theorem MapOk.apartRow {w : World} {mb s : Nat} {ord : List Nat} {par : Nat → Nat} {D : DataW Unit} (h : MapOk w mb s ord par D) {base : Nat} {e : TypeId} {size n : Nat} {v : Value} {xs : List Value} (hq : w.ownsRow base e size v n xs) : some mb ≠ v.ownBlock := by
  obtain ⟨es, clock, hb, _⟩ := h.own
  rcases hq.2 with ⟨rfl, _⟩ | ⟨g, cap, cur, rfl, _, hh, _⟩
  · simp [Value.ownBlock]
  · simp only [Value.ownBlock]
    intro e
    cases e
    rw [hb] at hh
    cases hh

theorem MapOk.grown2 {w w1 : World} {mb s : Nat} {ord : List Nat} {par : Nat → Nat} {D : DataW Unit} (h : MapOk w mb s ord par D) {ob : Obj} {base : Nat} {e : TypeId} {size n : Nat} {v : Value} {xs : List Value}
    (hown : w.ownsRow base e size v n xs) (hg : (w.alloc ob).grownBy w1 v.ownBlock) : MapOk w1 mb s ord par D :=
  (h.kept (World.grownBy_alloc w ob none) (by simp)).kept hg ((h.kept (World.grownBy_alloc w ob none) (by simp)).apartRow (hown.alloc ob))

theorem below_grown2 {w wr w1 : World} (h : Below w.heap.size w wr) {ob : Obj} {e : TypeId} {size n : Nat} {v : Value} {xs : List Value}
    (hown : wr.ownsRow w.heap.size e size v n xs) (hg : (wr.alloc ob).grownBy w1 v.ownBlock) : Below w.heap.size w w1 :=
  (h.alloc h.size ob).grown hg (by have := h.size; simp; omega) (fun k hk => (hown.lt k hk).1)

theorem MapOk.par_of {w : World} {mb s : Nat} {ord : List Nat} {par : Nat → Nat} {D : DataW Unit} (h : MapOk w mb s ord par D) {x : Nat} (hx : x ∈ ord) (hxs : x ≠ s) {c : Int} (hat : D.atKey (.int .i64 (x : Int)) (.lit (.int .i64 0)) = .lit (.int .i64 c)) :
    c = (par x : Int) := by
  rw [h.look x hx hxs] at hat
  injection hat with h1
  injection h1 with _ h2
  exact h2.symm

theorem ownsRow_one (w : World) (base : Nat) (x : Int) (hb : base ≤ w.heap.size) : (w.alloc (.cells #[.int .i64 x] 3)).ownsRow base 3 1 (.slice (some ⟨w.heap.size, 0, none⟩) 1 1) ([x] : List Int).length (([x] : List Int).map (Value.int .i64)) :=
  ⟨by simp, .inr ⟨w.heap.size, 1, #[.int .i64 x], rfl, hb, heap_alloc_new w _, by simp, by unfold maxLen; omega, by simp, by simp⟩⟩

/-- The row behind 'cycle[1:]', ahead of Reverse. -/
theorem rv_of_row {w : World} {g m : Nat} {cur : Array Value} {zs : List Int} (hz : zs.length = m + 1) (hh : w.heap[g]? = some (.cells cur 3 (0, 0))) (ht : cur.toList.take (zs.length * 1) = zs.map (Value.int .i64)) : Rv w w g 1 m cur.size := by
  refine ⟨⟨cur, hh, rfl, fun j hj => ?_⟩, World.grownBy.refl _ _, rfl⟩
  have h1 : (cur.toList.take (zs.length * 1))[1 + j]? = (zs.map (Value.int .i64))[1 + j]? := by rw [ht]
  rw [List.getElem?_take, if_pos (by omega)] at h1
  refine ⟨zs[1 + j]'(by omega), ?_⟩
  rw [← Array.getElem?_toList, h1]
  simp [show 1 + j < zs.length by omega]

/-- .. and behind it. -/
theorem row_of_rv {w w1 : World} {base g off m cp size : Nat} {k : Nat} (h : Rv w w1 g off k size) (hb : base ≤ g) (hs : size = (cp + 1) * 1) (hm : m + 1 ≤ cp + 1) (hc : cp + 1 ≤ maxLen) :
    ∃ xs, w1.ownsRow base 3 1 (.slice (some ⟨g, 0, none⟩) (m + 1) (cp + 1)) (m + 1) xs := by
  obtain ⟨⟨cur, hh, hz, _⟩, _, _⟩ := h
  refine ⟨cur.toList.take (m + 1), by simp; omega, .inr ⟨g, cp + 1, cur, rfl, hb, hh, hm, hc, by omega, by simp⟩⟩

/-- The world at the head of the loop that follows the parents. -/
structure Up (w wr : World) (s : Nat) (cv : Value) (zs : List Int) (ord : List Nat) (par : Nat → Nat) (D : DataW Unit) : Prop where
  bel : Below w.heap.size w wr
  map : MapOk wr w.heap.size s ord par D
  row : wr.ownsRow w.heap.size 3 1 cv zs.length (zs.map (Value.int .i64))

theorem Up.step {w wr w1 : World} {s : Nat} {cv cv' : Value} {zs : List Int} {ord : List Nat} {par : Nat → Nat} {D : DataW Unit} (h : Up w wr s cv zs ord par D) {ob : Obj} {x : Int} (hg : (wr.alloc ob).grownBy w1 cv.ownBlock)
    (ho : w1.ownsRow w.heap.size 3 1 cv' (zs.length + 1) (zs.map (Value.int .i64) ++ [.int .i64 x])) : Up w w1 s cv' (zs ++ [x]) ord par D :=
  ⟨below_grown2 h.bel h.row hg, h.map.grown2 h.row hg, by simpa using ho⟩

/-- What cycleThrough hands back. -/
def CycEnds (Q : Option Nat → Prop) (e : Ending) : Prop := (e = .returned (.slice none 0 0) ∧ Q none) ∨ ∃ a l c, e = .returned (.slice (some a) l c) ∧ Q (some l)

def ns (q : List Nat) : List Value := q.map fun v : Nat => Value.int .i64 (v : Int)

/-- The world at the loops' heads. -/
structure Cy (w wr : World) (s : Nat) (qv : Value) (q ord : List Nat) (par : Nat → Nat) (D : DataW Unit) : Prop where
  bel : Below w.heap.size w wr
  map : MapOk wr w.heap.size s ord par D
  seg : OwnsSeg wr w.heap.size 3 qv (ns q)

set_option maxHeartbeats 1600000 in
theorem cycleThrough_any (n b o s : Nat) (A : Nat → Option Addr) (L C Ab Ao : Nat → Nat) (Z : Nat → Nat → Int) (cap : Nat) (w : World) (h : RowsAt w (some ⟨b, o, none⟩) n b o A L C Ab Ao Z)
    (hs : s < n) (hn : n ≤ 1024) (hL : ∀ i, i < n → L i ≤ 131072) (hZ : ∀ i t, i < n → t < L i → 0 ≤ Z i t ∧ Z i t < n) :
    Calls Try.prog 19 #[.slice (some ⟨b, o, none⟩) n cap, .int .i64 s] w fun e w' => CycEnds (Plain.Cyc n L Z s) e ∧ Below w.heap.size w w' := by
  have hmm := @run_makeMap Try.prog
  have HR : Hid (RowsAt w (some ⟨b, o, none⟩) n b o A L C Ab Ao Z) := h
  have HZ : Hid (∀ i t, i < n → t < L i → 0 ≤ Z i t ∧ Z i t < n) := hZ
  have hbw : b < w.heap.size := World.block_lt_of_cell? _ _ (h.row 0 (by omega))
  obtain ⟨i0, hi, hz0, hz1, hz2⟩ := info_parts Try.info3
  clear h hZ
  go_enter Try.func19, Try.ntmps19
  go_wp2
  clear hmm
  have hst : Cy w ((w.alloc (.map #[] 0)).alloc (.cells #[.int .i64 (s : Int)] 3)) s (.slice (some ⟨w.heap.size + 1, 0, none⟩) 1 1) [s] ([] ++ [s]) (fun _ => 0) (.map []) :=
    ⟨((Below.refl _ _).alloc (Nat.le_refl _) _).alloc (by simp) _, (MapOk.start w s _).kept (World.grownBy_alloc _ _ none) (by simp), by simpa [ns] using OwnsSeg.made (base := w.heap.size) (e := 3) (w.alloc (.map #[] 0)) (.int .i64 (s : Int)) (by simp)⟩
  go_loopg [6] n (fun g qv wr => ∃ (done q : List Nat) (dep par : Nat → Nat) (D : DataW Unit), g = n - done.length ∧ Plain.AtHead n L Z s done q dep par ∧ Cy w wr s qv q (done ++ q) par D)
  case atStart => exact ⟨[], [s], _, _, _, rfl, Plain.AtHead.start n L Z s hs, hst⟩
  case round =>
    clear hst
    obtain ⟨done, q, dep, par, D, rfl, hhd, hcy⟩ := hrel
    have hlen := hhd.bfs.len
    simp only [List.length_append] at hlen
    have HH : Hid (Plain.AtHead n L Z s done q dep par) := hhd
    clear hhd
    cases q with
    | nil =>
      obtain ⟨g, off, cp, cur, rfl, _⟩ := hcy.seg
      simp only [ns, List.map_nil, List.length_nil]
      go_wp2
      go_ret
      exact ⟨.inl ⟨rfl, HH.out.none⟩, hcy.bel⟩
    | cons i q =>
      obtain ⟨g, off, cp, rfl, hle, hcm, hc0, hseg⟩ := OwnsSeg.front (x := .int .i64 (i : Int)) (xs := ns q) hcy.seg
      have hql : (ns q).length = q.length := by simp [ns]
      have hin : i < n := HH.out.bfs.lt i (by simp)
      have hrow : wr.cell? ⟨b, o + i, none⟩ = some (.slice (A i) (L i) (C i)) := by rw [hcy.bel.cell (p := ⟨b, o + i, none⟩) hbw]; exact HR.out.row i hin
      rw [hql] at hseg hle ⊢
      simp only [List.length_cons] at hlen
      unfold maxLen at hcm
      have HRow : Hid (Plain.AtRow n L Z s done i 0 q dep par) := HH.out.pop
      have hbel := hcy.bel
      have hmap := hcy.map
      have hLi := hL i hin
      have hnode := HH.out.bfs.lt
      have HN : Hid (∀ v ∈ done ++ i :: q, v < n) := hnode
      clear HH hcy hnode
      have hcpc : cp = 0 ∨ cp ≠ 0 := by omega
      rcases hcpc with rfl | hcp
      all_goals
        first | rw [if_pos rfl] at hseg | rw [if_neg hcp] at hseg
        clear hle
        go_wp2
        have hst : Cy w wr s _ q (done ++ i :: q) par D := ⟨hbel, hmap, hseg⟩
        clear hbel hmap hseg hc0 hrow hcm hql
        go_loopg [6, 30] (L i) (fun g qv ti wi => ∃ (t : Nat) (q : List Nat) (dep par : Nat → Nat) (D : DataW Unit), t ≤ L i ∧ g = L i - t ∧ ti = .int .i64 t ∧ Plain.AtRow n L Z s done i t q dep par ∧ Cy w wi s qv q (done ++ i :: q) par D)
        case atStart => exact ⟨0, q, dep, par, D, Nat.zero_le _, rfl, rfl, HRow.out, hst⟩
        case round =>
          clear hst HRow HN hlen
          obtain ⟨t, q, dep, par, D, ht, rfl, rfl, hrw, hcy⟩ := hrel
          have hlen := hrw.bfs.len
          simp only [List.length_append, List.length_cons] at hlen
          have HRow : Hid (Plain.AtRow n L Z s done i t q dep par) := hrw
          clear hrw
          by_cases htl : t < L i
          · have hix := index26 (cap := C i) (HR.out.spot i hin (by omega)) htl
            have hz := HZ.out i t hin htl
            obtain ⟨j, hzz⟩ := Int.eq_ofNat_of_zero_le hz.1
            have hjn : j < n := by omega
            have hc := HR.out.cell i t hin htl
            have hab : Ab i < w.heap.size := World.block_lt_of_cell? _ _ hc
            rw [← hcy.bel.cell (p := ⟨Ab i, Ao i + t, none⟩) hab, hzz] at hc
            have HZZ : Hid (Z i t = (j : Int)) := hzz
            clear hzz hz
            by_cases hjs : j = s
            · subst hjs
              have HF : Hid (Plain.Wk n L Z j (dep i + 1) j ∧ Plain.NoneBelow n L Z j (dep i + 1) ∧ dep i + 1 ≤ n) := HRow.out.found htl HZZ.out
              have hdi := HF.out.2.2
              go_wp2
              have hup : Up w (wr.alloc (.cells #[.int .i64 (j : Int)] 3)) j (.slice (some ⟨wr.heap.size, 0, none⟩) 1 1) [(j : Int)] (done ++ i :: q) par D :=
                ⟨hcy.bel.alloc hcy.bel.size _, hcy.map.kept (World.grownBy_alloc _ _ none) (by simp), ownsRow_one wr w.heap.size j hcy.bel.size⟩
              clear hcy hix hc
              go_loopg [10, 11] (dep i) (fun g cv kv wi => ∃ (x : Nat) (zs : List Int), x ∈ done ++ i :: q ∧ g = dep x ∧ kv = .int .i64 x ∧ zs.length = 1 + dep i - dep x ∧ dep x ≤ dep i ∧ Up w wi j cv zs (done ++ i :: q) par D)
              case atStart => exact ⟨i, _, by simp, rfl, rfl, by simp, Nat.le_refl _, hup⟩
              case round =>
                clear hup
                obtain ⟨x, zs, hx, rfl, rfl, hzl, hdx, hup⟩ := hrel
                have HX : Hid (x ∈ done ++ i :: q ∧ zs.length = 1 + dep i - dep x) := ⟨hx, hzl⟩
                have hzb : zs.length ≤ 1025 := by omega
                have hxn : x < n := HRow.out.bfs.lt x hx
                clear hx hzl
                by_cases hxs : x = j
                · subst hxs
                  have hd0 := HRow.out.bfs.dep0
                  have hzl := HX.out.2
                  rw [hd0] at hzl
                  rcases hup.row.2 with ⟨_, h0⟩ | ⟨g, cp, cur, rfl, hgb, hh, hnc, hcm, hcs, htk⟩
                  · omega
                  obtain ⟨cp, rfl⟩ : ∃ c, cp = c + 1 := ⟨cp - 1, by omega⟩
                  have hzl2 : zs.length = dep i + 1 := by omega
                  have hrv := rv_of_row hzl2 hh htk
                  have hbel := hup.bel
                  rw [hzl2] at hnc ⊢
                  clear hup hd0 hzl hzl2 htk hh HX hdx hzb
                  have hne : ((x : Int) != (x : Int)) = false := by simp
                  unfold maxLen at hcm
                  have HNC : Hid (dep i + 1 ≤ cp + 1) := hnc
                  clear hnc
                  rcases (show cp = 0 ∨ cp ≠ 0 by omega) with rfl | hcp0
                  all_goals
                    go_wp2_with fail
                    refine (reverse_any _ (dep i) _ g 1 cur.size _ (by omega) (fun h0 => by have := HNC.out; first | rfl | omega) hrv).mono ?_
                    rintro e w1 ⟨rfl, hr1⟩
                    obtain ⟨xs, hrow1⟩ := row_of_rv (base := w.heap.size) (m := dep i) hr1 hgb hcs HNC.out (by unfold maxLen; omega)
                    have hb1 : Below w.heap.size w w1 := hbel.grown hr1.grown hbel.size (fun k hk => by cases hk; exact hgb)
                    clear hr1 hrv hcs hbel
                    go_wp2_with (at_builtin; refine wpList_append_own _ rfl (.tmp 53) (.tmp 55) 26 rfl w.heap.size 3 i0 (.int .i64 0) 1 8 Try.underlying26 hi hz0 hz1 hz2 rfl (by decide) _ _ _ rfl (hrow1.alloc _) ⟨w1.heap.size, 0, none⟩ 1 1 [.int .i64 (x : Int)] rfl rfl (cell_one_new _ _ _) (ints_oneCell .i64 [(x : Int)]) (by unfold maxLen; omega) (by omega) (by have := hb1.size; simp; omega) ?_; intro v' w2 hown2 hgrow2 _)
                    go_ret
                    refine ⟨?_, below_grown2 hb1 hrow1 hgrow2⟩
                    rcases hown2.2 with ⟨_, h0⟩ | ⟨g', cp', cur', rfl, _⟩
                    · omega
                    · exact .inr ⟨_, _, _, rfl, dep i + 1, rfl, by omega, HF.out.2.2, HF.out.1, HF.out.2.1⟩
                · have hne : ((x : Int) != (j : Int)) = true := by rw [bne_iff_ne]; omega
                  go_wp2_with (first | (at_builtin; refine wpList_append_own _ rfl (.tmp 46) (.tmp 48) 26 rfl w.heap.size 3 i0 (.int .i64 0) 1 8 Try.underlying26 hi hz0 hz1 hz2 rfl (by decide) _ _ _ rfl (hup.row.alloc _) ⟨wr.heap.size, 0, none⟩ 1 1 [.int .i64 (x : Int)] rfl rfl (cell_one_new _ _ _) (ints_oneCell .i64 [(x : Int)]) (by unfold maxLen; omega) (by omega) (by have := hup.bel.size; simp; omega) ?_; intro v' w1 hown' hgrow _; have hup1 := hup.step hgrow hown') | (at_lookup; refine wpList_lookup_own_int _ rfl _ _ 33 rfl 3 3 .i64 law3 Try.underlying33 Try.underlying3 (zero3 _) w.heap.size _ D rfl hup1.map.own _ _ rfl (key3 x (by omega)) ?_; intro c hat hwc))
                  have hxm := HX.out.1
                  obtain ⟨hpm, hpd, _⟩ := HRow.out.bfs.up x hxm hxs
                  go_roundg (dep (par x))
                  case measure => omega
                  case rel => exact ⟨par x, zs ++ [(x : Int)], hpm, rfl, congrArg (Value.int .i64) (hup.map.par_of hxm hxs hat), by have := HX.out.2; simp; omega, by omega, hup1⟩
            have hne : ((j : Int) == (s : Int)) = false := beq_eq_false_iff_ne.2 (by omega)
            by_cases hmem : j ∈ done ++ i :: q
            · have hhas : Maps.has D (.int .i64 (j : Int)) = true := (hcy.map.has j).2 ⟨hmem, hjs⟩
              have HM : Hid (j ∈ done ++ i :: q) := hmem
              clear hmem
              go_wp2_with (at_lookup; refine wpList_lookup_own_ok_int _ rfl _ _ 33 rfl 3 3 .i64 law3 Try.underlying33 Try.underlying3 (zero3 _) w.heap.size _ D rfl hcy.map.own _ _ rfl (key3 j (by omega)) ?_; intro c hat hwc)
              go_roundg (L i - (t + 1))
              case measure => omega
              case rel => exact ⟨t + 1, q, dep, par, D, by omega, rfl, by go_num, HRow.out.seen HZZ.out hjs HM.out, hcy⟩
            · have hhas : Maps.has D (.int .i64 (j : Int)) = false := by
                cases hb : Maps.has D (.int .i64 (j : Int)) with
                | false => rfl
                | true => exact absurd ((hcy.map.has j).1 hb).1 hmem
              have HM : Hid (¬ j ∈ done ++ i :: q) := hmem
              have hapart := hcy.map.apart hcy.seg
              clear hmem
              go_wp2_with (first | (at_lookup; refine wpList_lookup_own_ok_int _ rfl _ _ 33 rfl 3 3 .i64 law3 Try.underlying33 Try.underlying3 (zero3 _) w.heap.size _ D rfl hcy.map.own _ _ rfl (key3 j (by omega)) ?_; intro c hat hwc) | (at_mapUpdate; refine wpList_mapUpdate_own _ rfl _ _ _ 33 rfl 3 3 law3 Try.underlying33 _ w.heap.size _ D rfl hcy.map.own (by unfold maxLen; simp; omega) _ _ _ rfl rfl (key3 j (by omega)) _ [] (plainElem_int Try.underlying3 (wfn i (by omega))) ?_; intro w1 hown1 hgrow1; have hseg1 := hcy.seg.kept hgrow1 (fun e => hapart e.symm)) | (at_builtin; refine wpList_append_seg _ rfl (.tmp 68) (.tmp 70) 26 rfl 3 i0 (.int .i64 0) 8 Try.underlying26 hi hz0 hz1 hz2 rfl w.heap.size _ _ rfl (hseg1.alloc _) ⟨w1.heap.size, 0, none⟩ 1 (.int .i64 (j : Int)) rfl (by simp) rfl (by unfold maxLen; simp [ns]; omega) (by simp [ns]; omega) (by have := hcy.bel.size; have := hgrow1.size; simp; omega) ?_; intro v' w2 hseg2 hgrow2))
              have hs2 : OwnsSeg w2 w.heap.size 3 v' (ns (q ++ [j])) := by simpa [ns] using hseg2
              have hlen2 : (done ++ i :: (q ++ [j])).length = (done ++ i :: q).length + 1 := by simp; omega
              have hb1 : Below w.heap.size w w1 := hcy.bel.grown hgrow1 hcy.bel.size (fun k hk => by cases hk; exact Nat.le_refl _)
              have hb2 : Below w.heap.size w w2 := (hb1.alloc hb1.size _).grown hgrow2 (by have := hb1.size; simp; omega) (fun k hk => (hseg1.lt k hk).1)
              have hm1 := hcy.map.put (i := i) (ord' := done ++ i :: (q ++ [j])) HM.out hjs (by simp) hown1
              have hm2 := (hm1.kept (World.grownBy_alloc w1 _ none) (by simp)).kept hgrow2 hapart
              go_roundg (L i - (t + 1))
              case measure => omega
              case rel => exact ⟨t + 1, q ++ [j], _, _, _, by omega, rfl, by go_num, HRow.out.fresh htl HZZ.out hjs hjn HM.out, hb2, hm2, hs2⟩
          · obtain rfl : t = L i := by omega
            go_wp2
            go_roundg (n - (done.length + 1))
            case measure => omega
            case rel =>
              refine ⟨done ++ [i], q, dep, par, D, by simp, HRow.out.back, ?_⟩
              have e : done ++ [i] ++ q = done ++ i :: q := by simp
              rw [e]; exact hcy

end Go.Proofs.Qxb6001457a
