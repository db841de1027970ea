import Derived.Test.Qxb6600164aFiveBase
namespace Go.Proofs.Qxb6600164a
open Go.MapKept
open Go.ChangeShapes Go.WideShapes Go.ChangeAt Go.RowKit

set_option maxHeartbeats 4000000 in
set_option maxRecDepth 100000 in
theorem five_G (a0 a1 a2 : ByteArray) (a3 : Int) (hs0 : ¬ a1.toList = []) (hso : (a3 == 0) = false) (w : World) (B : Nat) (hB0 : B = w.heap.size) (hz : a0.size + a1.size + a2.size ≤ 262144) :
    Calls Try.prog 3 #[.string a0, .string a1, .string a2, .int .i64 a3, .int .i64 a3] w fun e w' => e = .returned (.bool true) ∧ Below B w w' := by
  have Z5 := zz5 a0 a1 a2 a3 a3 w (by unfold maxLen; omega) (by unfold maxLen; omega) (by unfold maxLen; omega)
  have G0 := good6 a0 w (by omega)
  have G1 := good6 a1 w (by omega)
  have G2 := good6 a2 w (by omega)
  have hB : Hid (B = w.heap.size) := hB0
  clear hB0
  have hso' : Hid (a3 ≠ 0) := by show a3 ≠ 0; simpa using hso
  have ho' := hso'
  obtain ⟨D, hD0⟩ : ∃ D, D = sl ++ a0 := ⟨_, rfl⟩
  obtain ⟨S, hS0⟩ : ∃ S, S = D ++ sl ++ a1 := ⟨_, rfl⟩
  obtain ⟨P, hP0⟩ : ∃ P, P = D ++ sl ++ a2 := ⟨_, rfl⟩
  have hs1 : a1.toList.isEmpty = false := by simpa using hs0
  have hD1 : ({ data := #[47] } : ByteArray) ++ a0 = D := hD0.symm
  have hS1 : D ++ ({ data := #[47] } : ByteArray) ++ a1 = S := hS0.symm
  have hP1 : D ++ ({ data := #[47] } : ByteArray) ++ a2 = P := hP0.symm
  have zD : D.size = 1 + a0.size := by rw [hD0, ByteArray.size_append, size_sl]
  have zS : S.size = D.size + 1 + a1.size := by rw [hS0, ByteArray.size_append, ByteArray.size_append, size_sl]
  have zP : P.size = D.size + 1 + a2.size := by rw [hP0, ByteArray.size_append, ByteArray.size_append, size_sl]
  have hD : Hid (D = sl ++ a0) := hD0
  have hS : Hid (S = D ++ sl ++ a1) := hS0
  have hP : Hid (P = D ++ sl ++ a2) := hP0
  clear hD0 hS0 hP0
  have q1 := eql24
  have q2 := neq24
  have q3 := neq24n
  have q4 := eql24n
  go_enter Try.func3, Try.ntmps3
  go_wp2_with fail
  refine Z5.mono ?_
  rintro _ _ ⟨⟨r, rfl, -⟩, rfl⟩
  clear Z5
  cases r
  · go_wp2
    go_ret
    exact ⟨rfl, Below.refl _ _⟩
  go_wp2_with fail
  refine G0.mono ?_
  rintro _ _ ⟨⟨r, rfl, hg⟩, rfl⟩
  cases r
  · go_wp2
    go_ret
    exact ⟨rfl, Below.refl _ _⟩
  have hg0 : Hid (Good a0) := hg rfl
  clear hg G0
  go_wp2_with fail
  refine G2.mono ?_
  rintro _ _ ⟨⟨r, rfl, hg⟩, rfl⟩
  cases r
  · go_wp2
    go_ret
    exact ⟨rfl, Below.refl _ _⟩
  have hg2 : Hid (Good a2) := hg rfl
  clear hg G2
  go_wp2_with fail
  refine G1.mono ?_
  rintro _ _ ⟨⟨r, rfl, hg⟩, rfl⟩
  cases r
  · go_wp2
    go_ret
    exact ⟨rfl, Below.refl _ _⟩
  have hg1 : Hid (Good a1) := hg rfl
  clear hg G1
  by_cases hsn : a1 = a2
  · subst hsn
    go_wp2
    go_ret
    exact ⟨rfl, Below.refl _ _⟩
  have hsb := toList_ne hsn
  have hDl : Hid (D ≠ sl) := fun e => by
    have := congrArg ByteArray.size e
    have := hg0.out.1
    rw [size_sl] at *; omega
  have hPl : Hid (P ≠ sl) := fun e => by
    have := congrArg ByteArray.size e
    rw [size_sl] at *; omega
  have hPD : Hid (P ≠ D) := fun e => by
    have := congrArg ByteArray.size e
    omega
  have spD : ∀ w, Calls Try.prog 26 #[.string D] w fun e w' => e = .returned (.tuple #[.string sl, .string a0]) ∧ Below w.heap.size w w' ∧ w'.heap.size = w.heap.size := fun w => by
    rw [hD.out]; exact split1 a0 w (by rw [← hD.out]; omega) hg0.out.2
  have spP : ∀ w, Calls Try.prog 26 #[.string P] w fun e w' => e = .returned (.tuple #[.string D, .string a2]) ∧ Below w.heap.size w w' ∧ w'.heap.size = w.heap.size := fun w => by
    rw [hP.out]; exact split2 D a2 w (by omega) (by rw [← hP.out]; omega) hg2.out.2
  have hSl : Hid (S ≠ sl) := fun e => by
    have := congrArg ByteArray.size e
    rw [size_sl] at *; omega
  have hSD : Hid (S ≠ D) := fun e => by
    have := congrArg ByteArray.size e
    omega
  have hPS : Hid (P ≠ S) := fun e => by
    rw [hP.out, hS.out] at e
    exact hsn (ByteArray.append_right_inj (D ++ sl) |>.1 e).symm
  have spS : ∀ w, Calls Try.prog 26 #[.string S] w fun e w' => e = .returned (.tuple #[.string D, .string a1]) ∧ Below w.heap.size w w' ∧ w'.heap.size = w.heap.size := fun w => by
    rw [hS.out]; exact split2 D a1 w (by omega) (by rw [← hS.out]; omega) hg1.out.2
  have hsn' : Hid (a2 ≠ a1) := fun e => hsn e.symm
  go_wp2_with fail
  refine (t_root' hB.out).mono ?_
  rintro _ w1 ⟨rfl, n1, b1⟩
  go_wp2_with fail
  refine (t_tree' hB.out n1 b1).mono ?_
  rintro _ w2 ⟨T, rfl, h2⟩
  clear n1 b1
  go_wp2_with fail
  refine (t_new h2 0).mono ?_
  rintro _ w3 ⟨d, rfl, hd, h3⟩
  clear h2
  have hBd : Hid (B ≠ d) := hd B rfl
  clear hd
  go_wp2_with fail
  refine (t_link h3 (x := B) (y := d) (name := a0) (p := D) (.inr rfl) (.inl rfl) (by simp [Abs.add, Abs.init, hDl.out]) (by simp [Abs.add, Abs.init]) rfl).mono ?_
  rintro _ w4 ⟨rfl, h4⟩
  clear h3
  have fb := fb_A2 (dir := a0) hBd.out hDl.out
  have fo := fo_A2 (dir := a0) (name := a2) (o := a3) (so := a3) hBd.out hPl.out hPD.out
  have foS := fo_A2 (dir := a0) (name := a1) (o := a3) (so := a3) hBd.out hSl.out hSD.out
  have h4 : Tr _ _ _ _ (A2 B d a0 D) := h4
  generalize A2 B d a0 D = X at *
  go_wp2_with fail
  refine (t_new h4 a3).mono ?_
  rintro _ w5 ⟨s, rfl, hs, h5⟩
  clear h4
  have hBs : Hid (B ≠ s) := hs B fb.lr
  have hds : Hid (d ≠ s) := hs d fb.ld
  clear hs
  go_wp2_with fail
  refine (t_link h5 (x := d) (y := s) (name := a1) (p := S) (.inr fb.ld) (.inl rfl) foS.np (by simp [Abs.add, hds.out, foS.kn]) (by rw [A3_own]; exact foS.ow)).mono ?_
  rintro _ w6 ⟨rfl, h6⟩
  clear h5
  have h6 : Tr _ _ _ _ (A3 X d s a1 S a3) := h6
  have fb' : FB (A3 X d s a1 S a3) B d a0 D 3 1 1 := by simpa [Hid, hso'.out] using fb_A3 (so := a3) (s := s) (sib := a1) fb hBs.out hds.out hBd.out hSD.out.symm hSl.out.symm foS.on
  have fo' : FO (A3 X d s a1 S a3) d a2 P a3 a3 1 1 := by simpa [Hid, hso'.out] using fo_A3 (s := s) fo hds.out hPS.out hsn'.out
  have fs' : FS (A3 X d s a1 S a3) d s a1 S a3 := fs_A3
  clear fb fo foS
  generalize A3 X d s a1 S a3 = X' at *
  go_wp2_with fail
  refine (t_count h6 fb'.nn).mono ?_
  rintro _ w7 ⟨rfl, h7⟩
  clear h6
  go_wp2_with fail
  refine (t_owners h7 fb'.en).mono ?_
  rintro _ w8 ⟨rfl, h8⟩
  clear h7
  go_wp2_with fail
  refine (t_kids h8 fb'.ld fb'.kd).mono ?_
  rintro _ w9 ⟨rfl, h9⟩
  clear h8
  go_wp2_with fail
  refine (t_owned h9 fo'.on).mono ?_
  rintro _ w10 ⟨rfl, h10⟩
  clear h9
  go_wp2_with fail
  refine (t_owned h10 fo'.son).mono ?_
  rintro _ w11 ⟨rfl, h11⟩
  clear h10
  go_wp2_with fail
  refine (t_new h11 a3).mono ?_
  rintro _ w12 ⟨n, rfl, hn, h12⟩
  clear h11
  have hBn : Hid (B ≠ n) := hn B fb'.lr
  have hdn : Hid (d ≠ n) := hn d fb'.ld
  have hsn2 : Hid (s ≠ n) := hn s fs'.ls
  clear hn
  go_wp2_with fail
  refine (t_link h12 (x := d) (y := n) (name := a2) (p := P) (.inr fb'.ld) (.inl rfl) fo'.np (by simp [Abs.add, hdn.out, fo'.kn]) (by rw [A3_own]; exact fo'.ow)).mono ?_
  rintro _ w13 ⟨rfl, h13⟩
  clear h12
  have h13 : Tr _ _ _ _ (A3 X' d n a2 P a3) := h13
  have fbY : FB (A3 X' d n a2 P a3) B d a0 D 4 1 2 := by simpa [Hid, ho'.out] using fb_A3 (so := a3) (s := n) (sib := a2) fb' hBn.out hdn.out hBd.out hPD.out.symm hPl.out.symm fo'.on
  have fsY : FS (A3 X' d n a2 P a3) d n a2 P a3 := fs_A3
  have onY : (A3 X' d n a2 P a3).on a3 = 2 := on_A3 fo'.on ho'.out
  go_wp2_with fail
  refine (t_at h13 fsY.ns).mono ?_
  rintro _ w14 ⟨rfl, h14⟩
  clear h13
  go_wp2_with fail
  refine (t_has h14 fbY.ld fsY.ks).mono ?_
  rintro _ w15 ⟨rfl, h15⟩
  clear h14
  go_wp2_with fail
  refine (t_kids h15 fbY.ld fbY.kd).mono ?_
  rintro _ w16 ⟨rfl, h16⟩
  clear h15
  go_wp2_with fail
  refine (t_count h16 fbY.nn).mono ?_
  rintro _ w17 ⟨rfl, h17⟩
  clear h16
  go_wp2_with fail
  refine (t_owns h17 (fsY.ow ho'.out)).mono ?_
  rintro _ w18 ⟨rfl, h18⟩
  clear h17
  go_wp2_with fail
  refine (t_owned h18 onY).mono ?_
  rintro _ w19 ⟨rfl, h19⟩
  clear h18
  go_wp2_with fail
  refine (t_owners h19 fbY.en).mono ?_
  rintro _ w20 ⟨rfl, h20⟩
  clear h19
  go_wp2_with fail
  refine (t_unlink h20 spP fbY.nd fsY.ks fsY.ns (by rw [fsY.os]; exact fsY.ow)).mono ?_
  rintro _ w21 ⟨rfl, h21⟩
  clear h20
  have h21 : Tr _ _ _ _ (A6 X' d n a2 P a3) := h21
  have fb := fb_A6 fb' fo' hBn.out hdn.out
  have fo := fo_A6 fo' hdn.out
  have fs := fs_A6 fs' fo' hdn.out hsn2.out
  clear fb' fo' fbY fsY onY fs'
  generalize A6 X' d n a2 P a3 = Y at *
  go_wp2_with fail
  refine (t_gone h21 fo.np).mono ?_
  rintro _ w22 ⟨rfl, h22⟩
  clear h21
  go_wp2_with fail
  refine (t_has h22 fb.ld fo.kn).mono ?_
  rintro _ w23 ⟨rfl, h23⟩
  clear h22
  go_wp2_with fail
  refine (t_kids h23 fb.ld fb.kd).mono ?_
  rintro _ w24 ⟨rfl, h24⟩
  clear h23
  go_wp2_with fail
  refine (t_count h24 fb.nn).mono ?_
  rintro _ w25 ⟨rfl, h25⟩
  clear h24
  go_wp2_with fail
  refine (t_owners h25 fb.en).mono ?_
  rintro _ w26 ⟨rfl, h26⟩
  clear h25
  go_wp2_with fail
  refine (t_owned h26 fo.on).mono ?_
  rintro _ w27 ⟨rfl, h27⟩
  clear h26
  go_wp2_with fail
  refine (t_owns h27 fo.ow).mono ?_
  rintro _ w28 ⟨rfl, h28⟩
  clear h27
  go_wp2_with fail
  refine (t_at h28 fb.nd).mono ?_
  rintro _ w29 ⟨rfl, h29⟩
  clear h28
  go_wp2_with fail
  refine (t_at h29 fb.nr).mono ?_
  rintro _ w30 ⟨rfl, h30⟩
  clear h29
  go_wp2_with fail
  refine (t_has h30 fb.lr fb.kr).mono ?_
  rintro _ w31 ⟨rfl, h31⟩
  clear h30
  go_wp2_with fail
  refine (t_at h31 fs.ns).mono ?_
  rintro _ w32 ⟨rfl, h32⟩
  clear h31
  go_wp2_with fail
  refine (t_has h32 fb.ld fs.ks).mono ?_
  rintro _ w33 ⟨rfl, h33⟩
  clear h32
  go_wp2_with fail
  refine (t_own h33 fs.ls fs.os).mono ?_
  rintro _ w34 ⟨rfl, h34⟩
  clear h33
  go_wp2_with fail
  refine (t_owned h34 fo.son).mono ?_
  rintro _ w35 ⟨rfl, h35⟩
  clear h34
  go_wp2_with fail
  refine (t_owns h35 (fs.ow hso'.out)).mono ?_
  rintro _ w36 ⟨rfl, h36⟩
  clear h35
  go_wp2_with fail
  refine (t_unlink h36 spS fb.nd fs.ks fs.ns (by rw [fs.os]; exact fs.ow)).mono ?_
  rintro _ w37 ⟨rfl, h37⟩
  clear h36
  have fb7 : FB (Y.unlink d a1 S s) B d a0 D 2 0 0 := by simpa [Hid, hso'.out] using fb_A7 fb fs hBd.out hSD.out.symm hSl.out.symm fo.son
  clear fb fo fs
  generalize Y.unlink d a1 S s = Z at *
  go_wp2_with fail
  refine (t_unlink h37 spD fb7.nr fb7.kr fb7.nd (by rw [fb7.od]; intro q; exact absurd rfl q)).mono ?_
  rintro _ w38 ⟨rfl, h38⟩
  clear h37
  rw [A8_eq fb7] at h38
  have e1 : (Z.cut B a0 D).nn = 1 := by simp [Abs.cut, fb7.nn]
  have e2 : (Z.cut B a0 D).en = 0 := fb7.en
  have e3 : (Z.cut B a0 D).kn B = 0 := by simp [Abs.cut, fb7.k1]
  have e4 : (Z.cut B a0 D).kn d = 0 := by simp [Abs.cut, fb7.kd, hBd.out.symm]
  have e5 : (Z.cut B a0 D).node sl = some B := by simp [Abs.cut, fb7.nr, hDl.out.symm]
  have e6 : (Z.cut B a0 D).live B := fb7.lr
  have e7 : (Z.cut B a0 D).live d := fb7.ld
  clear fb7
  generalize Z.cut B a0 D = Z at *
  go_wp2_with fail
  refine (t_count h38 e1).mono ?_
  rintro _ w39 ⟨rfl, h39⟩
  clear h38
  go_wp2_with fail
  refine (t_owners h39 e2).mono ?_
  rintro _ w40 ⟨rfl, h40⟩
  clear h39
  go_wp2_with fail
  refine (t_kids h40 e6 e3).mono ?_
  rintro _ w41 ⟨rfl, h41⟩
  clear h40
  go_wp2_with fail
  refine (t_kids h41 e7 e4).mono ?_
  rintro _ w42 ⟨rfl, h42⟩
  clear h41
  go_wp2_with fail
  refine (t_at h42 e5).mono ?_
  rintro _ w43 ⟨rfl, h43⟩
  clear h42
  go_wp2
  go_ret
  exact ⟨rfl, h43.bel⟩
end Go.Proofs.Qxb6600164a
