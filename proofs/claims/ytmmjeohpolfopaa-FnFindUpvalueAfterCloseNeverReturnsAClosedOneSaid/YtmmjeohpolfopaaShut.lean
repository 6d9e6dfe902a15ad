/- Closing from a mark on: the walk of closeUpvalues. -/
import Derived.Test.YtmmjeohpolfopaaUv
namespace Go.Proofs.Ytmmjeohpolfopaa
open Go.RowKit Go.ChangeShapes Go.Deep
section
variable {w0 w : World} {L r g N u : Nat} {us ds : Nodes} {nx : Option Nat} {k : Int} {c : Bool}
theorem last_at {us : Nodes} {s j v : Nat} {k : Int} (hs : s ≤ j) (h : us[j]? = some (v, k)) : (v, k) ∈ (us.drop s).take (j + 1 - s) := by
  rw [take_snoc' hs h]; simp
theorem cut_first (h : St w0 w L r g N us ds) : St w0 (w.setCell ⟨L, 18, none⟩ (.pointer none)) L r g N (us.take 0) (ds ++ (us.drop 0).take (0 - 0)) ∧ Tail (w.setCell ⟨L, 18, none⟩ (.pointer none)) us 0 r ∧ Fr (Wr L us) w (w.setCell ⟨L, 18, none⟩ (.pointer none)) := by
  have hf : Fr (fun x => x = L) w (w.setCell ⟨L, 18, none⟩ (.pointer none)) := Fr.setCell (o := fun x => x = L) (Fr.refl _ w) (p := ⟨L, 18, none⟩) (.inl rfl) _
  obtain ⟨f, hf1, f13, f18⟩ := h.ls
  obtain ⟨h1, h2⟩ := h.cut (s := 0) (Nat.zero_le _) (fun x => x = L) hf (.inl ⟨rfl, fun _ hx => hx, ⟨_, hf1.set 18 _, by simpa using f13, by simp [ad]⟩⟩)
  exact ⟨by simpa using h1, h2, hf.mono (fun x hx => .inl (.inl hx))⟩
theorem nd_cut {w : World} {v : Nat} {nx : Option Nat} {c : Bool} (h : ND w v nx r k c) : ND (w.setCell ⟨v, 0, none⟩ (.pointer none)) v none r k c := by
  refine (World.rowIs.set h 0 _).congr (fun i hi => ?_)
  match i, hi with
  | 0, _ => rfl
  | 1, _ => rfl
  | 2, _ => rfl
  | 3, _ => rfl
  | 4, _ => rfl
theorem cut_next (h : St w0 w L r g N us ds) {wr : World} {s j v : Nat} {kv : Int} (hs : s ≤ j + 1) (hsl : s ≤ us.length) (hr : CRel w0 w L r g N us ds s (j + 1) wr) (hj : us[j]? = some (v, kv)) :
    (∃ nx c, ND wr v nx r kv c) ∧ St w0 (wr.setCell ⟨v, 0, none⟩ (.pointer none)) L r g N (us.take s) (ds ++ (us.drop s).take (j + 1 - s)) ∧ Tail (wr.setCell ⟨v, 0, none⟩ (.pointer none)) us (j + 1) r ∧ Fr (Wr L us) w (wr.setCell ⟨v, 0, none⟩ (.pointer none)) := by
  have hf : Fr (fun x => x = v) wr (wr.setCell ⟨v, 0, none⟩ (.pointer none)) := Fr.setCell (o := fun x => x = v) (Fr.refl _ wr) (p := ⟨v, 0, none⟩) (.inl rfl) _
  have hw : Wr L us v := .inr ⟨kv, mem_at hj⟩
  rcases hr with ⟨h1, rfl⟩ | ⟨h1, h2, h3, h4⟩
  · have e : s = j + 1 := by omega
    subst e
    have hnd := h.nodes j v kv hj
    obtain ⟨h1, h2⟩ := h.cut (s := j + 1) hsl (fun x => x = v) hf (.inr ⟨j, v, kv, rfl, hj, fun _ hx => hx, nd_cut hnd⟩)
    exact ⟨⟨_, _, hnd⟩, by simpa using h1, h2, hf.mono (fun x hx => .inl (by subst hx; exact hw))⟩
  · have hm := last_at (show s ≤ j by omega) hj
    obtain ⟨nx, hnd⟩ := h2.dead v kv (List.mem_append_right _ hm)
    refine ⟨⟨_, _, hnd⟩, h2.dead_set (List.mem_append_right _ hm) (h.lus v kv (mem_at hj)) (nd_cut hnd) hf, tail_fr h3 hf (fun i v' k' hi hi' hx => ?_), h4.trans hf (fun x hx => .inl (by subst hx; exact hw))⟩
    subst hx
    have := (h3 i v' k' hi hi').inj hnd
    cases this.2
theorem closed_end (h : St w0 w L r g N us ds) {wr : World} {s i : Nat} (hs : s ≤ us.length) (hi : us.length ≤ i) (hr : CRel w0 w L r g N us ds s i wr) : Closed w0 w wr L r g N us ds s (.returned (.tuple #[])) := by
  rcases hr with ⟨h1, rfl⟩ | ⟨h1, h2, h3, h4⟩
  · have e : s = us.length := by omega
    subst e
    refine ⟨rfl, ?_, Fr.refl _ _⟩
    simpa using h
  · refine ⟨rfl, ?_, h4⟩
    rwa [List.take_of_length_le (l := us.drop s) (by rw [List.length_drop]; omega)] at h2
set_option maxHeartbeats 2000000 in
theorem uv_shut (h : St w0 w L r g N us ds) (m : Int) {s : Nat} (hs : s ≤ us.length) (hlo : ∀ (j : Nat) v k, j < s → us[j]? = some (v, k) → k < m) (hhi : ∀ (j : Nat) v k, s ≤ j → us[j]? = some (v, k) → m ≤ k) :
    Calls Try.prog 25 #[.pointer (some ⟨L, 0, none⟩), .int .i64 m] w fun e w' => Closed w0 w w' L r g N us ds s e := by
  obtain ⟨f, hf, f13, f18⟩ := h.ls
  have cL := hf.cell (i := 18) (by omega)
  have fL := hf.frozen 18
  rw [f18] at cL
  have lL := hf.lt
  have H := Lib.hid h
  have HLO := Lib.hid hlo
  have HHI := Lib.hid hhi
  clear hf h f13 f18 hlo hhi
  rcases hus : us[0]? with _ | ⟨v0, k0⟩
  · have e0 : us.length ≤ 0 := List.getElem?_eq_none_iff.1 hus
    have FM := Lib.hid (closed_end H.out (wr := w) hs e0 (.inl ⟨Nat.zero_le _, rfl⟩))
    rw [pt_none hus] at cL
    simp only [ad, Option.map_none] at cL
    clear hus
    go_enter Try.func25, Try.ntmps25
    go_wp2
    go_end0
    exact FM.out
  · have cn := H.out.nodes
    rw [pt_some hus] at cL
    simp only [ad, Option.map_some] at cL
    have HU := Lib.hid hus
    have HN := Lib.hid cn
    clear hus cn
    go_enter Try.func25, Try.ntmps25
    go_wp2
    go_loopg [4, 5] us.length (fun gk p q wr => ∃ i, i + gk = us.length ∧ p = .pointer (ad (pv us i)) ∧ q = .pointer (ad (pt us i)) ∧ Hid (CRel w0 w L r g N us ds s i wr))
    case atStart => exact ⟨0, by omega, rfl, by rw [pt_some HU.out]; rfl, Lib.hid (.inl ⟨Nat.zero_le _, rfl⟩)⟩
    case round =>
      obtain ⟨i, hi, rfl, rfl, hcr⟩ := hrel
      have HC := Lib.hid hcr.out
      clear hcr
      rcases hx : us[i]? with _ | ⟨u, ku⟩
      · have hil : us.length ≤ i := List.getElem?_eq_none_iff.1 hx
        have FM := Lib.hid (closed_end H.out hs hil HC.out)
        rw [pt_none hx]
        clear hx
        simp only [ad, Option.map_none]
        obtain ⟨P, hP⟩ : ∃ P, Option.map (fun u => ({ block := u, off := 0, spot := none } : Addr)) (pv us i) = P := ⟨_, rfl⟩
        rw [hP]
        clear hP
        go_wp2
        go_end0
        exact FM.out
      · have hil : i < us.length := (List.getElem?_eq_some_iff.1 hx).1
        rw [pt_some hx]
        by_cases his : i < s
        · have hwr : wr = w := by
            rcases HC.out with ⟨_, h1⟩ | ⟨h1, _⟩
            · exact h1
            · omega
          subst hwr
          have hnd := HN.out i u ku hx
          have n0 := World.rowIs.cell hnd (i := 0) (by omega)
          have n2 := World.rowIs.cell hnd (i := 2) (by omega)
          simp only [ndF, if_true] at n0
          simp [ndF] at n2
          have hlt := HLO.out i u ku his hx
          have H3 := Lib.hid (show pv us (i + 1) = some u by simp [pv, pt, hx])
          have H4 : Hid (CRel w0 wr L r g N us ds s (i + 1) wr) := Lib.hid (.inl ⟨by omega, rfl⟩)
          obtain ⟨P, hP⟩ : ∃ P, ad (pv us i) = P := ⟨_, rfl⟩
          rw [hP]
          clear hx hnd HC hP
          simp only [ad, Option.map_some] at n0 ⊢
          go_wp2
          go_roundg (us.length - (i + 1))
          case measure => omega
          case rel => exact ⟨i + 1, by omega, by rw [H3.out]; rfl, rfl, H4⟩
        · have hge := HHI.out i u ku (by omega) hx
          have hidx := H.out.idx u ku (mem_at hx)
          have hN := H.out.hN
          have hasc := H.out.asc
          have HA := Lib.hid hasc
          have n2 : wr.cell? ⟨u, 2, none⟩ = some (.int .i64 ku) := by
            have hnd : ND wr u (pt us (i + 1)) r ku false := by
              rcases HC.out with ⟨h1, rfl⟩ | ⟨h1, _, h3, _⟩
              · exact HN.out i u ku hx
              · exact h3 i u ku (Nat.le_refl _) hx
            have n2 := World.rowIs.cell hnd (i := 2) (by omega)
            simpa [ndF] using n2
          have HX := Lib.hid hx
          have H3 := Lib.hid (show pv us (i + 1) = some u by simp [pv, pt, hx])
          rcases Nat.eq_zero_or_pos i with h0 | h0
          · subst h0
            have e : s = 0 := by omega
            have hwr : wr = w := by
              rcases HC.out with ⟨_, h1⟩ | ⟨h1, _⟩
              · exact h1
              · omega
            subst hwr
            obtain ⟨s1, s2, s3⟩ := cut_first H.out
            have hcl := uv_close (s2 0 u ku (Nat.le_refl _) hx) s1.rg s1.arr hN hidx.1 hidx.2
            have S1 := Lib.hid (And.intro s1 (And.intro s2 s3))
            have e2 : pv us 0 = none := rfl
            rw [e2]
            have E := Lib.hid e
            clear hx s1 s2 s3 e2 hasc HC e
            simp only [ad, Option.map_some, Option.map_none]
            go_wp2_with fail
            refine hcl.mono ?_
            rintro e w2 ⟨rfl, hd, hfr⟩
            have n0 := World.rowIs.cell hd (i := 0) (by omega)
            simp only [ndF, if_true] at n0
            obtain ⟨s1, s2, s3⟩ := S1.out
            have hcc := crel_close (s := 0) (i := 0) HA.out (Nat.le_refl _) H.out.lus s1 s2 HX.out hd hfr
            have H4 : Hid (CRel w0 wr L r g N us ds s (0 + 1) w2) := Lib.hid (by
              rw [E.out]
              exact .inr ⟨by omega, hcc.1, hcc.2, s3.trans hfr (fun x hx => .inl (by subst hx; exact .inr ⟨ku, mem_at HX.out⟩))⟩)
            clear hd hfr hcc s1 s2 s3 hcl
            simp only [ad] at n0
            go_wp2
            go_roundg (us.length - 1)
            case measure => omega
            case rel => exact ⟨1, by omega, by rw [H3.out]; rfl, rfl, H4⟩
          · obtain ⟨j, rfl⟩ : ∃ j, i = j + 1 := ⟨i - 1, by omega⟩
            rcases hj : us[j]? with _ | ⟨v, kv⟩
            · rw [List.getElem?_eq_none_iff] at hj; omega
            have e2 : pv us (j + 1) = some v := by simp [pv, pt, hj]
            obtain ⟨⟨nx', c', hnd⟩, s1, s2, s3⟩ := cut_next H.out (by omega) hs HC.out hj
            have m0 := World.rowIs.cell hnd (i := 0) (by omega)
            have m1 := World.rowIs.frozen hnd 0
            simp only [ndF, if_true] at m0
            have lv := World.rowIs.lt hnd
            have hcl := uv_close (s2 (j + 1) u ku (Nat.le_refl _) hx) s1.rg s1.arr hN hidx.1 hidx.2
            have S1 := Lib.hid (And.intro s1 (And.intro s2 s3))
            rw [e2]
            clear hx hj s1 s2 s3 e2 hasc HC hnd
            simp only [ad, Option.map_some] at m0 ⊢
            go_wp2_with fail
            refine hcl.mono ?_
            rintro e w2 ⟨rfl, hd, hfr⟩
            have n0 := World.rowIs.cell hd (i := 0) (by omega)
            simp only [ndF, if_true] at n0
            obtain ⟨s1, s2, s3⟩ := S1.out
            have hcc := crel_close HA.out (show s ≤ j + 1 by omega) H.out.lus s1 s2 HX.out hd hfr
            have H4 : Hid (CRel w0 w L r g N us ds s (j + 1 + 1) w2) := Lib.hid (.inr ⟨by omega, hcc.1, hcc.2, s3.trans hfr (fun x hx => .inl (by subst hx; exact .inr ⟨ku, mem_at HX.out⟩))⟩)
            clear hd hfr hcc s1 s2 s3 hcl
            simp only [ad] at n0
            go_wp2
            go_roundg (us.length - (j + 2))
            case measure => omega
            case rel => exact ⟨j + 2, by omega, by rw [H3.out]; rfl, rfl, H4⟩
end
end Go.Proofs.Ytmmjeohpolfopaa
