/-
  SEAT b6000450a: 'eqBytes', 'decodeBody', 'ZZmarshal' in the words that the laws on messages want.
-/
import Derived.Test.Qxb6000450aWalkE
import Derived.Test.Qxb6000450aWalkM
import Derived.Test.Qxb6000450aWalkD
import Derived.Test.Qxb6000450aMsg2
namespace Go.Proofs.Qxb6000450a
open Go.RowKit
open Pl

/-- '.slice A l.length _' reads l in w. -/
def Rdz (w : World) (A : Option Addr) (l : List Int) : Prop :=
  0 < l.length → ∃ b o : Nat, A = some ⟨b, o, none⟩ ∧ ∀ j, j < l.length → w.cell? ⟨b, o + j, none⟩ = some (.int .u8 (l.getD j 0))

theorem rd_z {w : World} {A : Option Addr} {l : List Int} {c : Nat} (h : Rd w A l c) : Rdz w A l := by
  intro h0
  rcases h with ⟨_, rfl, _⟩ | ⟨b, o, h1, _, _, h4⟩
  · simp at h0
  · exact ⟨b, o, h1, h4⟩

theorem bel_drewN {B : Nat} {a w : World} (h : Below B a w) (n : Nat) : Below B a (w.drewN n) := by
  induction n with
  | zero => exact h
  | succ n ih => exact ih.drew

/-- Two slices that read the same bytes; the world behind reads as W reads. -/
theorem eq_at (W w2 w0 : World) (B : Nat) (a b : Option Addr) (n c d : Nat) (l : List Int) (hw : Hid (∀ x, w2.cell? x = W.cell? x)) (hb : Hid (Below B w0 w2)) (hl : l.length = n) (hn : n ≤ 1048576) (h1 : Rdz W a l) (h2 : Rdz W b l) :
    Calls Try.prog 11 #[.slice a n c, .slice b n d] w2 fun e w' => e = .returned (.bool true) ∧ Hid (∀ x, w'.cell? x = W.cell? x) ∧ Hid (Below B w0 w') := by
  refine (eq_calls a b n n c d w2 (by omega) rfl (fun h0 => ?_)).mono ?_
  · obtain ⟨b1, o1, e1, g1⟩ := h1 (by omega)
    obtain ⟨b2, o2, e2, g2⟩ := h2 (by omega)
    exact ⟨b1, o1, b2, o2, fun j => l.getD j 0, e1, e2, fun j hj => (hw.out _).trans (g1 j (by omega)), fun j hj => (hw.out _).trans (g2 j (by omega))⟩
  · rintro e w' ⟨rfl, m, rfl⟩
    exact ⟨rfl, fun x => (cell_drewN w2 m x).trans (hw.out x), bel_drewN hb.out m⟩

/-- 'decodeBody' over the message. -/
theorem decode_msg (ext : Bool) (n h1 p2 p3 p4 h5 base g cap N : Nat) (H C G D O : List Int) (W w2 : World)
    (hext : (ext = true ∧ n = 4) ∨ (ext = false ∧ n = 3)) (l1 : H.length = h1) (l2 : C.length = p2) (l3 : G.length = p3) (l4 : D.length = p4) (l5 : O.length = h5)
    (b1 : h1 ≤ 65536) (b2 : n + p2 + p3 ≤ 255) (b4 : p4 ≤ 255) (b5 : h5 ≤ 65536) (b6 : ext = true → 0 < h5 → n + p2 + p3 + p4 ≤ 255)
    (hown : Own W base (.slice (some ⟨g, 0, none⟩) N cap) (msg H n (pk C G D) O)) (hN : (msg H n (pk C G D) O).length = N) (hNc : N ≤ cap) (hw : ∀ x, w2.cell? x = W.cell? x) :
    Calls Try.prog 12 #[.slice (some ⟨g, 0, none⟩) N cap, .int .i64 (h1 : Int), .bool ext] w2 fun e w' =>
      ∃ (A2 A3 A4 A5 : Option Addr) (k2 k3 k4 k5 m5 : Nat), e = .returned (.tuple #[.bool true, .slice A2 p2 k2, .slice A3 p3 k3, .slice A4 p4 k4, .slice A5 m5 k5]) ∧ Hid (Rdz W A2 C) ∧ Hid (Rdz W A3 G) ∧ Hid (Rdz W A4 D) ∧ Hid (ext = true → m5 = h5 ∧ Rdz W A5 O) ∧ Hid (ext = false → m5 = 0) ∧ w2 = w' := by
  have cells : ∀ j, j < N → w2.cell? ⟨g, j, none⟩ = some (.int .u8 ((msg H n (pk C G D) O).getD j 0)) := fun j hj => (hw _).trans (own_cell hN hown j hj)
  have cellsW : ∀ j, j < N → W.cell? ⟨g, j, none⟩ = some (.int .u8 ((msg H n (pk C G D) O).getD j 0)) := fun j hj => own_cell hN hown j hj
  have part : ∀ (o : Nat) (l : List Int), o + l.length ≤ N → (∀ i, i < l.length → (msg H n (pk C G D) O).getD (o + i) 0 = l.getD i 0) → Rdz W (some ⟨g, o, none⟩) l := fun o l h1 h2 _ =>
    ⟨g, o, rfl, fun j hj => by rw [cellsW (o + j) (by omega), h2 j hj]⟩
  obtain ⟨d1, e1⟩ : ∃ d, d = n + p2 := ⟨_, rfl⟩
  obtain ⟨d2, e2⟩ : ∃ d, d = n + p2 + p3 := ⟨_, rfl⟩
  obtain ⟨_, _, _, e3⟩ := ml_of (n := n) l1 l2 l3 l4
  by_cases ho : n = 4 ∧ 0 < O.length
  · obtain ⟨hn4, hO⟩ := ho
    have hx : ext = true := by
      rcases hext with ⟨h, _⟩ | ⟨_, h⟩
      · exact h
      · omega
    subst hx hn4
    obtain ⟨L, t1, t2, t3⟩ := lay_opt (H := H) (P := pk C G D) (O := O) (d3 := 4 + p2 + p3 + p4) rfl hO l1 l2 l3 l4 e1 e2 rfl
    have b6' := b6 rfl (by omega)
    refine (dec_ext1 g h1 p2 p3 p4 d1 d2 (4 + p2 + p3 + p4) cap N w2 b1 (by omega) (by omega) b4 (by omega) (by omega) (by omega) (by omega) (by omega) (by omega) (by omega) hNc
      ((cells h1 (by omega)).trans (by rw [L.z0]; rfl)) ((cells _ (by omega)).trans (by rw [L.z1])) ((cells _ (by omega)).trans (by rw [L.z2])) ((cells _ (by omega)).trans (by rw [t1])) b6' (by omega)
      ((cells _ (by omega)).trans (by rw [L.y0])) ((cells _ (by omega)).trans (by rw [L.y1])) ((cells _ (by omega)).trans (by rw [L.y2]))).mono ?_
    rintro e w' ⟨⟨A, k2, k3, k4, k5, rfl, hA⟩, rfl⟩
    refine ⟨_, _, A, _, k2, k3, k4, k5, _, rfl, part _ C (by omega) (fun i hi => L.s2 i (by omega)), part _ G (by omega) (fun i hi => L.s3 i (by omega)), ?_, fun _ => ⟨by omega, part _ O (by omega) (fun i _ => t2 i)⟩, (fun h => by simp at h), rfl⟩
    intro h0
    rw [hA (by omega)]
    exact part _ D (by omega) (fun i hi => L.s4 i (by omega)) h0
  · have em := msg_plain (H := H) (P := pk C G D) ho
    rw [em] at cells cellsW part hN
    have L := lay_MM (H := H) (n := n) (P := pk C G D) (by omega) l1 l2 l3 l4 e1 e2
    have hN' : N = h1 + 2 + d2 + 1 + p4 := by
      have : (MM H n (pk C G D) 3).length = ML H n (pk C G D) 3 := rfl
      omega
    rcases hext with ⟨rfl, rfl⟩ | ⟨rfl, rfl⟩
    · have hO : O = [] := List.eq_nil_of_length_eq_zero (by omega)
      have z3 := ptr3_MM (H := H) (P := pk C G D) (n := 4) rfl
      rw [l1] at z3
      refine (dec_ext0 g h1 p2 p3 p4 d1 d2 cap N w2 b1 (by omega) (by omega) b4 (by omega) (by omega) (by omega) (by omega) (by omega) (by omega) hNc
        ((cells h1 (by omega)).trans (by rw [L.z0]; rfl)) ((cells _ (by omega)).trans (by rw [L.z1])) ((cells _ (by omega)).trans (by rw [L.z2])) ((cells _ (by omega)).trans (by rw [z3]))
        ((cells _ (by omega)).trans (by rw [L.y0])) ((cells _ (by omega)).trans (by rw [L.y1])) ((cells _ (by omega)).trans (by rw [L.y2]))).mono ?_
      rintro e w' ⟨⟨A, k2, k3, k4, rfl, hA⟩, rfl⟩
      refine ⟨_, _, A, none, k2, k3, k4, 0, 0, rfl, part _ C (by omega) (fun i hi => L.s2 i (by omega)), part _ G (by omega) (fun i hi => L.s3 i (by omega)), ?_, fun _ => ⟨by rw [← l5, hO]; rfl, fun h0 => by rw [hO] at h0; simp at h0⟩, (fun _ => rfl), rfl⟩
      intro h0
      rw [hA (by omega)]
      exact part _ D (by omega) (fun i hi => L.s4 i (by omega)) h0
    · refine (dec_plain g h1 p2 p3 p4 d1 d2 cap N w2 b1 (by omega) (by omega) b4 (by omega) (by omega) (by omega) (by omega) (by omega) (by omega) hNc
        ((cells h1 (by omega)).trans (by rw [L.z0]; rfl)) ((cells _ (by omega)).trans (by rw [L.z1])) ((cells _ (by omega)).trans (by rw [L.z2]))
        ((cells _ (by omega)).trans (by rw [L.y0])) ((cells _ (by omega)).trans (by rw [L.y1])) ((cells _ (by omega)).trans (by rw [L.y2]))).mono ?_
      rintro e w' ⟨⟨A, k2, k3, k4, rfl, hA⟩, rfl⟩
      refine ⟨_, _, A, none, k2, k3, k4, 0, 0, rfl, part _ C (by omega) (fun i hi => L.s2 i (by omega)), part _ G (by omega) (fun i hi => L.s3 i (by omega)), ?_, (fun h => by simp at h), (fun _ => rfl), rfl⟩
      intro h0
      rw [hA (by omega)]
      exact part _ D (by omega) (fun i hi => L.s4 i (by omega)) h0

end Go.Proofs.Qxb6000450a
