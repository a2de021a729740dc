/-
  Of two packets, one behind the other, the first one is read, and the second one is left: laws.FnWireTwo answers true, for every pair of packets of the given size.
-/
import Derived.Test.YtgnficcjnijdbaaGreatRows
import Derived.ChangeSlices
import Derived.ShutString
import Derived.Test.YtgnficcjnijdbaaGreatMWT4
import Derived.Test.YtgnficcjnijdbaaGreatMWT5
import Derived.Test.YtgnficcjnijdbaaGreatMWT6
import Derived.Test.YtgnficcjnijdbaaGreatMWT7
set_option linter.unusedVariables false
set_option linter.unusedSimpArgs false
set_option maxHeartbeats 20000000
set_option maxRecDepth 5000
namespace Go.Proofs.YtgnficcjnijdbaaGreat
open Go.RowKit Go.Great Go.Proofs.YtgnficcjnijdbaaGreatW.PrintWords Go.Proofs.YtgnficcjnijdbaaGreatW.PrintLast Go.Proofs.YtgnficcjnijdbaaGreatW.PrintMore Go.Proofs.YtgnficcjnijdbaaGreat.KK
theorem UnextQ.below {sets : Array Value → Array Value} {tp : TypeId} {x : Nat} {w w' : World} (h : UnextQ sets tp x w) (hb : Below w.heap.size w w') : UnextQ sets tp x w' :=
 fun W q P hW hq hP hxq hqw => h W q P (hb.trans (hW.mono hb.size)) hq hP hxq (Nat.le_trans hb.size hqw)
theorem zEI (p : Pk) (h : p.f0 = 200) (hx : p.f16.size ≤ 1000000) {pl : List UInt8} {sets : Array Value → Array Value} {tp t : TypeId} {zs : Array Value} {F : Nat} (E : zHv p.f16 pl sets tp t zs F) (hpl : zBP p.f16 p.f2 p.f3 p.f4 p.f8 = pl)
  (hP : sets ((z24 200 p.f1).setIfInBounds 23 (.string p.f16)) = pkC p none 0 none 0 none 0) (h9 : p.f9.f7 = []) (h10 : p.f10 = []) (h11 : p.f11 = [])
  (b g o s : Nat) (W : World) (hq : W.heap[b]? = some (.cells #[.string ⟨#[]⟩, .nilIface] 185 (0, 0))) (h1 : b ≠ g) (h2 : b ≠ s) (hB : RBuf W g o s (some (zA1 p))) :
  Calls Tryz.prog 194 #[.pointer (some ⟨b, 0, none⟩), .pointer (some ⟨g, o, none⟩)] W (zMn p 181 b g o W) := by
 have e : zA1 p = str (tl p.f16) ++ pl := by rw [← hpl]; unfold zA1; rw [h]; rfl
 rw [e] at hB
 refine (zGo p.f16 pl sets tp t zs F E b g o s W hq h1 h2 hB hx).mono ?_
 rintro e w' ⟨x, rfl, _, hxl, hk, hun, hu⟩
 exact ⟨rfl, fun V hV => zFb p.f1 V p.f16 p sets tp x b ((hV.block b (zAC hk)).trans hk) (hun.below hV) (Nat.lt_of_lt_of_le hxl hV.size) hP h9 h10 h11, hu⟩
theorem zDM (x : ByteArray) : zAd 200 x = zMm (zDn x) := rfl
theorem zFc (p : Pk) (s : Sound p) (h : p.f0 = 200) : zBU p 181 185 #[.string ⟨#[]⟩, .nilIface] 194 where
 meth := fun _ _ => by kernel_rfl
 ent := enters_of Tryz.func194 (by kernel_rfl) rfl
 fill := fun b g o s' W hq h1 h2 hB => by
  have hx := s.txt
  unfold zB7 at hx
  rcases zOq p.f16 with ⟨a0, a1, a2, a3, a4⟩ | ⟨a0, a1, a2, a3, a4⟩ | ⟨a0, a1, a2, a3, a4⟩ | ⟨a0, a1, a2, a3, a4⟩ | ⟨a0, a1, a2, a3, a4⟩ | ⟨a0, a1, a2, a3, a4⟩
  ·have hm : zAd p.f0 p.f16 = [1, 2, 3, 16] := by rw [h, zDM, zLT a0]; rfl
   have hp : p = (⟨200, p.f1, p.f2, p.f3, e0, 0, 0, 0, e0, ⟨0, 0, 0, 0, 0, 0, 0, []⟩, [], [], 0, 0, e0, e0, p.f16⟩ : Pk) := by
    have h1 : p = (⟨p.f0, p.f1, p.f2, p.f3, e0, 0, 0, 0, e0, ⟨0, 0, 0, 0, 0, 0, 0, []⟩, [], [], 0, 0, e0, e0, p.f16⟩ : Pk) := s.ok.only.trans (by unfold zBL; rw [hm]; rfl)
    rw [h] at h1
    exact h1
   have hP : (fun P => (P.setIfInBounds 2 (.string p.f2)).setIfInBounds 3 (.string p.f3)) ((z24 200 p.f1).setIfInBounds 23 (.string p.f16)) = pkC (⟨200, p.f1, p.f2, p.f3, e0, 0, 0, 0, e0, ⟨0, 0, 0, 0, 0, 0, 0, []⟩, [], [], 0, 0, e0, e0, p.f16⟩ : Pk) none 0 none 0 none 0 := by kernel_rfl
   rw [← hp] at hP
   exact zEI p h (by omega) (zGm p.f16 p.f2 p.f3 a0 a1 a2 a3 a4 (by omega) (by omega)) (zCu p.f2 p.f3 p.f4 p.f8 a0) hP (by rw [hp]) (by rw [hp]) (by rw [hp]) b g o s' W hq h1 h2 hB
  ·have hm : zAd p.f0 p.f16 = [1, 2, 3, 16] := by rw [h, zDM, zLU a0 a1]; rfl
   have hp : p = (⟨200, p.f1, p.f2, p.f3, e0, 0, 0, 0, e0, ⟨0, 0, 0, 0, 0, 0, 0, []⟩, [], [], 0, 0, e0, e0, p.f16⟩ : Pk) := by
    have h1 : p = (⟨p.f0, p.f1, p.f2, p.f3, e0, 0, 0, 0, e0, ⟨0, 0, 0, 0, 0, 0, 0, []⟩, [], [], 0, 0, e0, e0, p.f16⟩ : Pk) := s.ok.only.trans (by unfold zBL; rw [hm]; rfl)
    rw [h] at h1
    exact h1
   have hP : (fun P => (P.setIfInBounds 2 (.string p.f2)).setIfInBounds 3 (.string p.f3)) ((z24 200 p.f1).setIfInBounds 23 (.string p.f16)) = pkC (⟨200, p.f1, p.f2, p.f3, e0, 0, 0, 0, e0, ⟨0, 0, 0, 0, 0, 0, 0, []⟩, [], [], 0, 0, e0, e0, p.f16⟩ : Pk) none 0 none 0 none 0 := by kernel_rfl
   rw [← hp] at hP
   exact zEI p h (by omega) (zE0 p.f16 p.f2 p.f3 a0 a1 a2 a3 a4 (by omega) (by omega)) (zCU p.f2 p.f3 p.f4 p.f8 a0 a1) hP (by rw [hp]) (by rw [hp]) (by rw [hp]) b g o s' W hq h1 h2 hB
  ·have hm : zAd p.f0 p.f16 = [1, 2, 16] := by rw [h, zDM, zLV a0 a1 a2]; rfl
   have hp : p = (⟨200, p.f1, p.f2, e0, e0, 0, 0, 0, e0, ⟨0, 0, 0, 0, 0, 0, 0, []⟩, [], [], 0, 0, e0, e0, p.f16⟩ : Pk) := by
    have h1 : p = (⟨p.f0, p.f1, p.f2, e0, e0, 0, 0, 0, e0, ⟨0, 0, 0, 0, 0, 0, 0, []⟩, [], [], 0, 0, e0, e0, p.f16⟩ : Pk) := s.ok.only.trans (by unfold zBL; rw [hm]; rfl)
    rw [h] at h1
    exact h1
   have hP : (fun P => P.setIfInBounds 2 (.string p.f2)) ((z24 200 p.f1).setIfInBounds 23 (.string p.f16)) = pkC (⟨200, p.f1, p.f2, e0, e0, 0, 0, 0, e0, ⟨0, 0, 0, 0, 0, 0, 0, []⟩, [], [], 0, 0, e0, e0, p.f16⟩ : Pk) none 0 none 0 none 0 := by kernel_rfl
   rw [← hp] at hP
   exact zEI p h (by omega) (zHw p.f16 p.f2 a0 a1 a2 a3 a4 (by omega)) (zDT p.f2 p.f3 p.f4 p.f8 a0 a1 a2) hP (by rw [hp]) (by rw [hp]) (by rw [hp]) b g o s' W hq h1 h2 hB
  ·have hm : zAd p.f0 p.f16 = [1, 4, 16] := by rw [h, zDM, zLW a0 a1 a2 a3]; rfl
   have hp : p = (⟨200, p.f1, e0, e0, p.f4, 0, 0, 0, e0, ⟨0, 0, 0, 0, 0, 0, 0, []⟩, [], [], 0, 0, e0, e0, p.f16⟩ : Pk) := by
    have h1 : p = (⟨p.f0, p.f1, e0, e0, p.f4, 0, 0, 0, e0, ⟨0, 0, 0, 0, 0, 0, 0, []⟩, [], [], 0, 0, e0, e0, p.f16⟩ : Pk) := s.ok.only.trans (by unfold zBL; rw [hm]; rfl)
    rw [h] at h1
    exact h1
   have hP : (fun P => P.setIfInBounds 4 (.string p.f4)) ((z24 200 p.f1).setIfInBounds 23 (.string p.f16)) = pkC (⟨200, p.f1, e0, e0, p.f4, 0, 0, 0, e0, ⟨0, 0, 0, 0, 0, 0, 0, []⟩, [], [], 0, 0, e0, e0, p.f16⟩ : Pk) none 0 none 0 none 0 := by kernel_rfl
   rw [← hp] at hP
   exact zEI p h (by omega) (zGn p.f16 p.f4 a0 a1 a2 a3 a4 (by omega)) (zCv p.f2 p.f3 p.f4 p.f8 a0 a1 a2 a3) hP (by rw [hp]) (by rw [hp]) (by rw [hp]) b g o s' W hq h1 h2 hB
  ·have hm : zAd p.f0 p.f16 = [1, 4, 16] := by rw [h, zDM, zLX a0 a1 a2 a3 a4]; rfl
   have hp : p = (⟨200, p.f1, e0, e0, p.f4, 0, 0, 0, e0, ⟨0, 0, 0, 0, 0, 0, 0, []⟩, [], [], 0, 0, e0, e0, p.f16⟩ : Pk) := by
    have h1 : p = (⟨p.f0, p.f1, e0, e0, p.f4, 0, 0, 0, e0, ⟨0, 0, 0, 0, 0, 0, 0, []⟩, [], [], 0, 0, e0, e0, p.f16⟩ : Pk) := s.ok.only.trans (by unfold zBL; rw [hm]; rfl)
    rw [h] at h1
    exact h1
   have hP : (fun P => P.setIfInBounds 4 (.string p.f4)) ((z24 200 p.f1).setIfInBounds 23 (.string p.f16)) = pkC (⟨200, p.f1, e0, e0, p.f4, 0, 0, 0, e0, ⟨0, 0, 0, 0, 0, 0, 0, []⟩, [], [], 0, 0, e0, e0, p.f16⟩ : Pk) none 0 none 0 none 0 := by kernel_rfl
   rw [← hp] at hP
   exact zEI p h (by omega) (zK4 p.f16 p.f4 a0 a1 a2 a3 a4 (by omega)) (zEM p.f2 p.f3 p.f4 p.f8 a0 a1 a2 a3 a4) hP (by rw [hp]) (by rw [hp]) (by rw [hp]) b g o s' W hq h1 h2 hB
  ·have hm : zAd p.f0 p.f16 = [1, 8, 16] := by rw [h, zDM, zLY a0 a1 a2 a3 a4]; rfl
   have hp : p = (⟨200, p.f1, e0, e0, e0, 0, 0, 0, p.f8, ⟨0, 0, 0, 0, 0, 0, 0, []⟩, [], [], 0, 0, e0, e0, p.f16⟩ : Pk) := by
    have h1 : p = (⟨p.f0, p.f1, e0, e0, e0, 0, 0, 0, p.f8, ⟨0, 0, 0, 0, 0, 0, 0, []⟩, [], [], 0, 0, e0, e0, p.f16⟩ : Pk) := s.ok.only.trans (by unfold zBL; rw [hm]; rfl)
    rw [h] at h1
    exact h1
   have hP : (fun P => P.setIfInBounds 8 (.string p.f8)) ((z24 200 p.f1).setIfInBounds 23 (.string p.f16)) = pkC (⟨200, p.f1, e0, e0, e0, 0, 0, 0, p.f8, ⟨0, 0, 0, 0, 0, 0, 0, []⟩, [], [], 0, 0, e0, e0, p.f16⟩ : Pk) none 0 none 0 none 0 := by kernel_rfl
   rw [← hp] at hP
   exact zEI p h (by omega) (zLn p.f16 p.f8 a0 a1 a2 a3 a4 (by omega)) (zEi p.f2 p.f3 p.f4 p.f8 a0 a1 a2 a3 a4) hP (by rw [hp]) (by rw [hp]) (by rw [hp]) b g o s' W hq h1 h2 hB
theorem zD4 (p : Pk) (s : Sound p) (h : p.f0 = 201) : zBU p 186 188 #[.nilIface] 198 where
 meth := fun _ _ => by kernel_rfl
 ent := enters_of Tryz.func198 (by kernel_rfl) rfl
 fill := fun b g o s' W hq h1 h2 hB => by
  have hx := s.txt
  unfold zB7 at hx
  have e : zA1 p = tl p.f8 := by unfold zA1; rw [h]; rfl
  rw [e] at hB
  have hp : p = (⟨201, p.f1, e0, e0, e0, 0, 0, 0, p.f8, ⟨0, 0, 0, 0, 0, 0, 0, []⟩, [], [], 0, 0, e0, e0, e0⟩ : Pk) := by
   have h1 : p = (⟨p.f0, p.f1, e0, e0, e0, 0, 0, 0, p.f8, ⟨0, 0, 0, 0, 0, 0, 0, []⟩, [], [], 0, 0, e0, e0, e0⟩ : Pk) := s.ok.only.trans (by unfold zBL; rw [show zAd p.f0 p.f16 = [1, 8] from by rw [h]; rfl]; rfl)
   rw [h] at h1
   exact h1
  have hP : (fun P : Array Value => P.setIfInBounds 8 (.string p.f8)) (z24 201 p.f1) = pkC (⟨201, p.f1, e0, e0, e0, 0, 0, 0, p.f8, ⟨0, 0, 0, 0, 0, 0, 0, []⟩, [], [], 0, 0, e0, e0, e0⟩ : Pk) none 0 none 0 none 0 := by kernel_rfl
  rw [← hp] at hP
  refine (zK5 p.f8 (by omega) b g o s' W hq h1 h2 hB).mono ?_
  rintro e w' ⟨x, rfl, _, hxl, hk, hun, hu⟩
  exact ⟨rfl, fun V hV => zD3 p.f1 V p _ _ x b ((hV.block b (zAC hk)).trans hk) (hun.below hV) (Nat.lt_of_lt_of_le hxl hV.size) hP (by rw [hp]) (by rw [hp]) (by rw [hp]), hu⟩
def zHx : Array Value := #[.int .u8 0, .int .u32 0, .slice none 0 0, .int .i64 0, .nilIface]
def zOW (q g s : Nat) (t id : Int) (B : List UInt8) (w : World) (e : Ending) (w' : World) : Prop :=
 e = .returned .nilIface ∧ RBuf w' q 2 s (some B) ∧ w'.cell? ⟨q, 1, none⟩ = some (.int .u32 id) ∧ UpdB (fun k => k = g ∨ k = q) w w'
theorem zM8 (q g s : Nat) (t id : Int) (B : List UInt8) (w : World) (ht : T27 t) (i0 : 0 ≤ id) (i1 : id ≤ 4294967295) (hq : w.heap[q]? = some (.cells zHx 85 (0, 0))) (hqg : q ≠ g) (hqs : q ≠ s) (hb : RBuf w g 0 s (some (bt t :: (zAQ id ++ B)))) :
  Calls Tryz.prog 60 #[.pointer (some ⟨q, 0, none⟩), .pointer (some ⟨g, 0, none⟩)] w (zOW q g s t id B w) := by
 have hql := zAC hq
 have hlt := hb.lt
 have e8 : c8 (some (bt t :: (zAQ id ++ B))) = (t, some (zAQ id ++ B)) := by
  have h1 : c8 (some (bt t :: (zAQ id ++ B))) = (((bt t).toNat : Int), some (zAQ id ++ B)) := rfl
  rw [h1, T27.bt ht]
 have C8 := Lib.hid (zE7 g 0 s _ w hb)
 have E8 := Lib.hid e8
 have E32 := Lib.hid (zBI id B i0 i1)
 have HQ := Lib.hid hq
 clear hq hb e8 ht i0 i1
 go_enter Tryz.func60, Tryz.ntmps60
 go_wp2_with fail
 refine C8.out.mono ?_
 rw [E8.out]
 rintro e w1 ⟨rfl, hb1, hu1⟩
 have z1 := hu1.size
 have C32 := Lib.hid (zC3 g 0 s _ w1 hb1)
 have q1 := (hu1.block q hql hqg).trans HQ.out
 have Q1 := Lib.hid q1
 have U1 := Lib.hid hu1
 clear hb1 hu1 q1 C8 E8 HQ
 go_wp2_with fail
 refine C32.out.mono ?_
 rw [E32.out]
 rintro e w2 ⟨rfl, hb2, hu2⟩
 have z2 := hu2.size
 have q2 : w2.heap[q]? = some (.cells #[.int .u8 0, .int .u32 0, .slice none 0 0, .int .i64 0, .nilIface] 85 (0, 0)) := (hu2.block q (by omega) hqg).trans Q1.out
 have U2 : UpdB (fun k => k = g ∨ k = q) w w2 := (U1.out.trans hu2).updB (.inl rfl)
 obtain ⟨p, n, c, off, h0, h1, hsg, hon, hnc, hn, h2, hl, hL⟩ := hb2.ex
 have hlt2 := hb2.lt
 have k0 : w2.cell? ⟨q, 0, none⟩ = some (.int .u8 0) := by rw [zAA q2]; rfl
 have k1 : w2.cell? ⟨q, 1, none⟩ = some (.int .u32 0) := by rw [zAA q2]; rfl
 have k2 : w2.cell? ⟨q, 2, none⟩ = some (.slice none 0 0) := by rw [zAA q2]; rfl
 have k3 : w2.cell? ⟨q, 3, none⟩ = some (.int .i64 0) := by rw [zAA q2]; rfl
 have k4 : w2.cell? ⟨q, 4, none⟩ = some .nilIface := by rw [zAA q2]; rfl
 have fq := zAP q2
 have f0 := fq 0
 have f1 := fq 1
 have f2 := fq 2
 have f3 := fq 3
 have f4 := fq 4
 obtain ⟨W3, hW3⟩ : ∃ W, ((((w2.setCell ⟨q, 0, none⟩ (.int .u8 t)).setCell ⟨q, 1, none⟩ (.int .u32 id)).setCell ⟨q, 2, none⟩ (.slice none 0 0)).setCell ⟨q, 3, none⟩ (.int .i64 0)).setCell ⟨q, 4, none⟩ .nilIface = W := ⟨_, rfl⟩
 have o3 : ∀ k, k ≠ q → W3.heap[k]? = w2.heap[k]? := fun k hk => by
  rw [← hW3, Below.heap_setCell _ _ _ _ hk, Below.heap_setCell _ _ _ _ hk, Below.heap_setCell _ _ _ _ hk, Below.heap_setCell _ _ _ _ hk, Below.heap_setCell _ _ _ _ hk]
 have b3 : W3.heap[q]? = some (.cells #[.int .u8 t, .int .u32 id, .slice none 0 0, .int .i64 0, .nilIface] 85 (0, 0)) := by
  rw [← hW3]
  have a1 : (w2.setCell ⟨q, 0, none⟩ (.int .u8 t)).heap[q]? = some (.cells #[.int .u8 t, .int .u32 0, .slice none 0 0, .int .i64 0, .nilIface] 85 (0, 0)) := zAT q2 _
  have a2 : ((w2.setCell ⟨q, 0, none⟩ (.int .u8 t)).setCell ⟨q, 1, none⟩ (.int .u32 id)).heap[q]? = some (.cells #[.int .u8 t, .int .u32 id, .slice none 0 0, .int .i64 0, .nilIface] 85 (0, 0)) := zAT a1 _
  have a3 : (((w2.setCell ⟨q, 0, none⟩ (.int .u8 t)).setCell ⟨q, 1, none⟩ (.int .u32 id)).setCell ⟨q, 2, none⟩ (.slice none 0 0)).heap[q]? = some (.cells #[.int .u8 t, .int .u32 id, .slice none 0 0, .int .i64 0, .nilIface] 85 (0, 0)) := zAT a2 _
  have a4 : ((((w2.setCell ⟨q, 0, none⟩ (.int .u8 t)).setCell ⟨q, 1, none⟩ (.int .u32 id)).setCell ⟨q, 2, none⟩ (.slice none 0 0)).setCell ⟨q, 3, none⟩ (.int .i64 0)).heap[q]? = some (.cells #[.int .u8 t, .int .u32 id, .slice none 0 0, .int .i64 0, .nilIface] 85 (0, 0)) := zAT a3 _
  exact zAT a4 _
 have u3 : UpdB (fun k => k = g ∨ k = q) w W3 := by rw [← hW3]; exact ((((U2.setCell (.inr rfl) _).setCell (.inr rfl) _).setCell (.inr rfl) _).setCell (.inr rfl) _).setCell (.inr rfl) _
 have z3 : W3.heap.size = w2.heap.size := by rw [← hW3]; simp [World.setCell]
 have g0 : W3.cell? ⟨g, 0, none⟩ = some (.slice (some ⟨s, p, none⟩) n c) := (cell_kept (o3 g (Ne.symm hqg))).trans h0
 have g1 : W3.cell? ⟨g, 1, none⟩ = some (.int .i64 ((off : Nat) : Int)) := (cell_kept (o3 g (Ne.symm hqg))).trans h1
 have g2 : W3.cell? ⟨g, 2, none⟩ = some .nilIface := (cell_kept (o3 g (Ne.symm hqg))).trans h2
 have m2 : W3.cell? ⟨q, 2, none⟩ = some (.slice none 0 0) := by rw [zAA b3]; rfl
 have m3 : W3.cell? ⟨q, 3, none⟩ = some (.int .i64 0) := by rw [zAA b3]; rfl
 have m4 : W3.cell? ⟨q, 4, none⟩ = some .nilIface := by rw [zAA b3]; rfl
 have fr := zAP b3
 have r2 := fr 2
 have r3 := fr 3
 have r4 := fr 4
 obtain ⟨W4, hW4⟩ : ∃ W, ((W3.setCell ⟨q, 2, none⟩ (.slice (some ⟨s, p, none⟩) n c)).setCell ⟨q, 3, none⟩ (.int .i64 ((off : Nat) : Int))).setCell ⟨q, 4, none⟩ .nilIface = W := ⟨_, rfl⟩
 have o4 : ∀ k, k ≠ q → W4.heap[k]? = W3.heap[k]? := fun k hk => by
  rw [← hW4, Below.heap_setCell _ _ _ _ hk, Below.heap_setCell _ _ _ _ hk, Below.heap_setCell _ _ _ _ hk]
 have b4 : W4.heap[q]? = some (.cells #[.int .u8 t, .int .u32 id, .slice (some ⟨s, p, none⟩) n c, .int .i64 ((off : Nat) : Int), .nilIface] 85 (0, 0)) := by
  rw [← hW4]
  have a1 : (W3.setCell ⟨q, 2, none⟩ (.slice (some ⟨s, p, none⟩) n c)).heap[q]? = some (.cells #[.int .u8 t, .int .u32 id, .slice (some ⟨s, p, none⟩) n c, .int .i64 0, .nilIface] 85 (0, 0)) := zAT b3 _
  have a2 : ((W3.setCell ⟨q, 2, none⟩ (.slice (some ⟨s, p, none⟩) n c)).setCell ⟨q, 3, none⟩ (.int .i64 ((off : Nat) : Int))).heap[q]? = some (.cells #[.int .u8 t, .int .u32 id, .slice (some ⟨s, p, none⟩) n c, .int .i64 ((off : Nat) : Int), .nilIface] 85 (0, 0)) := zAT a1 _
  exact zAT a2 _
 have u4 : UpdB (fun k => k = g ∨ k = q) w W4 := by rw [← hW4]; exact ((u3.setCell (.inr rfl) _).setCell (.inr rfl) _).setCell (.inr rfl) _
 have z4 : W4.heap.size = W3.heap.size := by rw [← hW4]; simp [World.setCell]
 have l2 : W4.cell? ⟨g, 2, none⟩ = some .nilIface := (cell_kept (o4 g (Ne.symm hqg))).trans g2
 have F := Lib.hid (show zOW q g s t id B w (.returned .nilIface) W4 from
  ⟨rfl, ⟨⟨p, n, c, off, by rw [zAA b4]; rfl, by rw [zAA b4]; rfl, ⟨Ne.symm hqs, by omega⟩, hon, hnc, hn, by rw [zAA b4]; rfl, hl, (hL.kept (o3 s (Ne.symm hqs))).kept (o4 s (Ne.symm hqs))⟩, zAP b4⟩, by rw [zAA b4]; rfl, u4⟩)
 have X3 := Lib.hid hW3
 have X4 := Lib.hid hW4
 clear hb2 hu2 q2 U2 hL o3 b3 u3 fr fq o4 b4 u4 z3 z4 hl hW3 hW4 C32 E32 Q1 U1 z1 z2 hon hnc hn hsg hlt hlt2
 go_wp2_with fail
 go_ret
 rw [X3.out, X4.out]
 exact F.out
def zOX (q rr s0 : Nat) (L l : List UInt8) (id : Int) (B : List UInt8) (w : World) (e : Ending) (w' : World) : Prop :=
 e = .returned .nilIface ∧ (∃ s, w.heap.size ≤ s ∧ RBuf w' q 2 s (some B)) ∧ w'.cell? ⟨q, 1, none⟩ = some (.int .u32 id) ∧ Rd w' rr s0 (L.drop (4 + l.length)) ∧ UpdB (fun k => k = rr ∨ k = q) w w'
theorem zJ3 (q rr s : Nat) (t id : Int) (B L l : List UInt8) (M : Int) (w : World) (ht : T27 t) (i0 : 0 ≤ id) (i1 : id ≤ 4294967295) (hq : w.heap[q]? = some (.cells zHx 85 (0, 0))) (hr : Rd w rr s L) (hL : L.length ≤ 1000000000) (hM0 : 0 ≤ M) (hM : M ≤ 1000000000) (hrs : rr ≠ s) (hqr : q ≠ rr) (hqs : q ≠ s)
  (hg : zBd M L = some l) (hl : l = bt t :: (zAQ id ++ B)) :
  Calls Tryz.prog 32 #[.pointer (some ⟨q, 0, none⟩), .pointer (some ⟨rr, 0, none⟩), .slice none 0 0, .int .u32 M] w (zOX q rr s L l id B w) := by
 have C := Lib.hid (zCd rr s L M w hr hL hM0 hM hrs)
 have hrl : rr < w.heap.size := by obtain ⟨p, c, hb, _⟩ := hr; exact zAC hb
 have hsl : s < w.heap.size := by obtain ⟨p, c, hb, _, _, h⟩ := hr; exact h
 have hql := zAC hq
 have Q := Lib.hid hq
 have hll : l.length ≤ 1000000000 := Nat.le_trans (zE8 hg) hL
 have RF := Lib.hid (fun (g s : Nat) (W : World) h1 h2 h3 h4 => zM8 q g s t id B W ht i0 i1 h1 h2 h3 h4)
 have HL := Lib.hid hl
 clear hr hL hM0 hM hq ht i0 i1 hl
 go_enter Tryz.func32, Tryz.ntmps32
 go_wp2_with fail
 refine C.out.mono ?_
 rw [hg]
 rintro e w1 ⟨hu, h, c, rfl, hc, hwh, hhw, hlie, hrd⟩
 have hq1 := (hu.block q hql hqr).trans Q.out
 have U := Lib.hid hu
 have LI := Lib.hid hlie
 have Q1 := Lib.hid hq1
 have RD := Lib.hid hrd
 have z1 := hu.size
 clear hu C hlie hq1 Q hrd
 go_wp2_with fail
 refine (zAZ _ _ _ _).mono ?_
 rintro e w2 ⟨rfl, hw2⟩
 have hb2 := RBuf.new LI.out hhw hc hll
 have hbel := (Below.refl w1.heap.size w1).alloc (Nat.le_refl _) (.cells #[.slice (some ⟨h, 0, none⟩) l.length c, .int .i64 0, .nilIface] 83)
 rw [hw2] at hb2 hbel
 have hq2 := (hbel.block q (by omega)).trans Q1.out
 rw [HL.out] at hb2
 have E := Lib.hid (RF.out _ _ w2 hq2 (by omega) (by omega) hb2)
 have R2 := Lib.hid (RD.out.kept (hbel.block rr (by omega)) (hbel.block s (by omega)) hbel.size)
 have U2 : UpdB (fun k => k = rr ∨ k = q) w w2 := (U.out.mono (fun k e => .inl e)).trans ⟨hbel.os, hbel.tape, hbel.output, hbel.size, fun k hk _ => hbel.block k hk⟩
 have V2 := Lib.hid U2
 have ZB := Lib.hid hbel.size
 clear hw2 hb2 hbel hq2 U2 RF Q1 LI U RD
 go_wp2_with fail
 refine E.out.mono ?_
 rintro e w3 ⟨rfl, hb3, hid3, hu3⟩
 have F := Lib.hid (show zOX q rr s L l id B w (.returned .nilIface) w3 from by
  have hu := V2.out
  have hz := hu.size
  have zb := ZB.out
  exact ⟨rfl, ⟨_, hwh, hb3⟩, hid3, R2.out.kept (hu3.block rr (by omega) (by omega)) (hu3.block s (by omega) (by omega)) hu3.size, ⟨hu3.os.trans hu.os, hu3.tape.trans hu.tape, hu3.output.trans hu.output, Nat.le_trans hu.size hu3.size, fun k hk e => (hu3.block k (by omega) (by omega)).trans (hu.block k hk e)⟩⟩)
 clear hb3 hid3 hu3 E V2 R2
 go_wp2_with fail
 go_ret
 exact F.out
theorem zOY (sb : ByteArray) (t id : Int) (B l : List UInt8) (M : Int) (w : World) (ht : T27 t) (i0 : 0 ≤ id) (i1 : id ≤ 4294967295) (hs : sb.size ≤ 1000000000) (hM0 : 0 ≤ M) (hM : M ≤ 1000000000) (hg : zBd M (tl sb) = some l) (hl : l = bt t :: (zAQ id ++ B)) :
  Calls Tryz.prog 16 #[.string sb, .int .u32 M] w fun e w' => e = .returned (.int .i64 (((tl sb).drop (4 + l.length)).length : Nat)) ∧ Below w.heap.size w w' := by
 have kb := fun W => Lib.run_convert_string_bytes (P := Tryz.prog) W 9 56 5 sb Tryz.underlying9 Tryz.underlying56 Tryz.underlying5
 have hrr : (Lib.bytesWorld w 5 sb).heap.size = w.heap.size + 1 := Lib.bytesWorld_size _ _ _
 have hR := Rd.new w sb
 rw [hrr] at hR
 have hbe : Below w.heap.size w ((Lib.bytesWorld w 5 sb).alloc (.cells #[.slice (some ⟨w.heap.size, 0, none⟩) sb.size (grownCap w sb.size 0 5)] 76)) := (bytes_below (Below.refl _ _) (Nat.le_refl _) _ _).alloc (by rw [hrr]; omega) _
 obtain ⟨W1, hW1⟩ : ∃ W, (Lib.bytesWorld w 5 sb).alloc (.cells #[.slice (some ⟨w.heap.size, 0, none⟩) sb.size (grownCap w sb.size 0 5)] 76) = W := ⟨_, rfl⟩
 have s1 : W1.heap.size = w.heap.size + 1 + 1 := by rw [← hW1]; simp [hrr]
 rw [hW1] at hR hbe
 obtain ⟨W2, hW2⟩ : ∃ W, W1.alloc (.cells zHx 85) = W := ⟨_, rfl⟩
 have hq2 : W2.heap[w.heap.size + 1 + 1]? = some (.cells zHx 85 (0, 0)) := by rw [← hW2, ← s1]; exact heap_alloc_new _ _
 have hb2 : Below W1.heap.size W1 W2 := by rw [← hW2]; exact (Below.refl _ _).alloc (Nat.le_refl _) _
 have hR2 : Rd W2 (w.heap.size + 1) w.heap.size (tl sb) := hR.kept (hb2.block _ (by omega)) (hb2.block _ (by omega)) hb2.size
 have C := Lib.hid (zJ3 (w.heap.size + 1 + 1) (w.heap.size + 1) w.heap.size t id B (tl sb) l M W2 ht i0 i1 hq2 hR2 (by rw [zAH]; exact hs) hM0 hM (by omega) (by omega) (by omega) hg hl)
 have BB := Lib.hid (hbe.trans (hb2.mono (by omega)))
 have X1 := Lib.hid hW1
 have X2 := Lib.hid hW2
 have S1 := Lib.hid s1
 have RR := Lib.hid hrr
 clear hrr hR hbe hW1 s1 hW2 hq2 hb2 hR2 ht i0 i1 hl hg hM0 hM hs
 go_enter Tryz.func16, Tryz.ntmps16
 go_upto_region 2 with fail
 rw [X1.out, RR.out]
 go_wp2_with ((refine wpList_allocTo rfl (some 6) rfl (.pointer (some ⟨w.heap.size + 1 + 1, 0, none⟩)) (.cells zHx 85) (by rw [← S1.out]; as_aux_lemma => kernel_rfl) ?_; rw [X2.out]))
 refine C.out.mono ?_
 rintro e w3 ⟨rfl, _, _, ⟨p, c, hk, _, _, _⟩, hu⟩
 have c0 : w3.cell? ⟨w.heap.size + 1, 0, none⟩ = some (.slice (some ⟨w.heap.size, p, none⟩) ((tl sb).drop (4 + l.length)).length c) := by rw [zAA hk]; rfl
 have hfin : Below w.heap.size w w3 := BB.out.trans ⟨hu.os, hu.tape, hu.output, hu.size, fun k hk => hu.block k (by have := BB.out.size; omega) (by omega)⟩
 have F := Lib.hid hfin
 clear hk hu hfin C BB X1 X2 S1 RR kb
 go_wp2_with fail
 go_ret
 refine ⟨?_, F.out⟩
 rw [List.length_drop]
 rfl
theorem zBj (p : Pk) (tp t : TypeId) (zs : Array Value) (F : Nat) (T : zBU p tp t zs F) (hnew : ∀ w : World, Calls Tryz.prog 30 #[.int .i64 p.f0] w fun e w' => e = .returned (.iface tp (.pointer (some ⟨w.heap.size, 0, none⟩))) ∧ w.alloc (.cells zs t) = w')
  (ht : T27 p.f0) (h12 : ¬ (p.f0 = 1 ∨ p.f0 = 2)) (i0 : 0 ≤ p.f1) (i1 : p.f1 ≤ 4294967295) (s : ByteArray) (M : Int) (w : World) (hi : ∀ w : World, (Instr.index 9 (.string s) (.int .i64 4)).run Tryz.prog w = .ok (.int .u8 p.f0) w) (h4 : 4 < s.size) (hs : s.size ≤ 1000000000) (hM0 : 0 ≤ M) (hM : M ≤ 1000000000)
  (hg : zBd M (tl s) = some (inner p)) :
  Calls Tryz.prog 11 #[.string s, .int .u32 M] w (zLh p w) := by
 have hr9 := T27.range ht
 have hx1 : (p.f0 == 1) = false := by simp; omega
 have hx2 : (p.f0 == 2) = false := by simp; omega
 rw [zDr h12] at hg
 have RQ := Lib.hid (fun (q rr s : Nat) (L : List UInt8) (W : World) h1 h2 h3 h4 h5 h6 h7 => zJ3 q rr s p.f0 p.f1 (zA1 p) L _ M W ht i0 i1 h1 h2 h3 hM0 hM h4 h5 h6 h7 rfl)
 have RN := Lib.hid hnew
 have HM := T.meth
 have HC := T.ent
 have HF := Lib.hid T.fill
 have hcv : IntKind.i64.wrap p.f0 = p.f0 := IntWalk.i64_in _ (by omega)
 have HG := Lib.hid hg
 clear T hnew ht h12 i0 i1 hg hr9
 generalize hty0 : p.f0 = ty at *
 clear hty0
 have hmf : ∀ (fn : Fn) (first cap : Array Value) (w : World), (Instr.makeFunc fn first cap).run Tryz.prog w = .ok (.func fn first cap) w := fun _ _ _ _ => rfl
 have kb := fun W => Lib.run_convert_string_bytes (P := Tryz.prog) W 9 56 5 s Tryz.underlying9 Tryz.underlying56 Tryz.underlying5
 have i4 : (4 : Int) < (s.size : Int) := by omega
 obtain ⟨W0, hW0⟩ : ∃ W, (w.alloc (.cells pZero 29)).alloc (.cells #[.int .i64 0] 3) = W := ⟨_, rfl⟩
 have s0 : W0.heap.size = w.heap.size + 1 + 1 := by rw [← hW0]; simp
 have X0 := Lib.hid hW0
 have S0 := Lib.hid s0
 clear hW0 s0
 go_enter_defers Tryz.func11, Tryz.ntmps11
 go_wp2_with (first
  | (refine wpList_allocTo rfl (some 4) rfl (.pointer (some ⟨w.heap.size, 0, none⟩)) (.cells pZero 29) (by as_aux_lemma => kernel_rfl) ?_)
  | (refine zBD 12 rfl ?_; rw [X0.out]))
 have hrr : (Lib.bytesWorld W0 5 s).heap.size = w.heap.size + 1 + 1 + 1 := by rw [Lib.bytesWorld_size, S0.out]
 obtain ⟨hR, hz0, hz1, hbe, hsz⟩ := zCT w W0 s X0.out
 rw [hrr, S0.out]
 unfold zC4 at hR hz0 hz1 hbe hsz
 clear hrr
 generalize (Lib.bytesWorld W0 5 s).alloc (.cells #[.slice (some ⟨w.heap.size + 1 + 1, 0, none⟩) s.size (grownCap W0 s.size 0 5)] 76) = W1 at hR hz0 hz1 hbe hsz ⊢
 have R1 := Lib.hid hR
 have Z0 := Lib.hid hz0
 have Z1 := Lib.hid hz1
 have B1 := Lib.hid hbe
 have S1 := Lib.hid hsz
 clear hR hz0 hz1 hbe hsz kb X0 S0
 refine (RN.out W1).mono ?_
 rintro e w9 ⟨rfl, hw9⟩
 have z9 : w9.heap.size = W1.heap.size + 1 := by rw [← hw9]; simp
 have hb9 : Below W1.heap.size W1 w9 := by rw [← hw9]; exact (Below.refl _ _).alloc (Nat.le_refl _) _
 have hx9 : w9.heap[W1.heap.size]? = some (.cells zs t (0, 0)) := by rw [← hw9]; exact heap_alloc_new _ _
 have e1 := S1.out
 have R9 := Lib.hid (R1.out.kept (hb9.block _ (by omega)) (hb9.block _ (by omega)) hb9.size)
 have Z09 := Lib.hid ((hb9.block _ (by omega)).trans Z0.out)
 have Z19 := Lib.hid ((hb9.block _ (by omega)).trans Z1.out)
 have B9 := Lib.hid (B1.out.trans (hb9.mono (by omega)))
 have K9 := Lib.hid hx9
 have e1' : W1.heap.size = w.heap.size + 1 + 1 + 1 + 1 := e1
 clear hb9 R1 Z0 Z1 B1 S1 e1 hx9 hw9 RN
 obtain ⟨x, hx⟩ : ∃ x, x = W1.heap.size := ⟨_, rfl⟩
 rw [← hx] at e1' z9 K9 ⊢
 clear hx
 obtain ⟨W2, hW2⟩ : ∃ W, w9.alloc (.cells zHx 85) = W := ⟨_, rfl⟩
 have hz2 : W2.heap.size = x + 1 + 1 := by rw [← hW2]; simp [z9]
 have hb2 : Below w9.heap.size w9 W2 := by rw [← hW2]; exact (Below.refl _ _).alloc (Nat.le_refl _) _
 have hq2 : W2.heap[x + 1]? = some (.cells zHx 85 (0, 0)) := by rw [← hW2, ← z9]; exact heap_alloc_new _ _
 have X2 := Lib.hid hW2
 have Q2 := Lib.hid hq2
 have B2 := Lib.hid hb2
 have Z2 := Lib.hid hz2
 have Z9 := Lib.hid z9
 have E1 := Lib.hid e1'
 clear hW2 hz2 hb2 hq2 z9 e1'
 go_wp2_with (refine wpList_allocTo rfl (some 10) rfl (.pointer (some ⟨x + 1, 0, none⟩)) (.cells zHx 85) (by rw [← Z9.out]; as_aux_lemma => kernel_rfl) ?_; rw [X2.out])
 have hb2 := B2.out
 have z9 := Z9.out
 have e1' := E1.out
 have hz2 := Z2.out
 have hR2 : Rd W2 (w.heap.size + 1 + 1 + 1) (w.heap.size + 1 + 1) (tl s) := R9.out.kept (hb2.block _ (by omega)) (hb2.block _ (by omega)) hb2.size
 refine (RQ.out (x + 1) (w.heap.size + 1 + 1 + 1) (w.heap.size + 1 + 1) (tl s) W2 Q2.out hR2 (by rw [zAH]; exact hs) (by omega) (by omega) (by omega) HG.out).mono ?_
 rintro e w3 ⟨rfl, ⟨s3, hs3, hb3⟩, hid3, _, hu3⟩
 have z3 := hu3.size
 have y0 : w3.heap[w.heap.size]? = some (.cells pZero 29 (0, 0)) := by rw [hu3.block _ (by omega) (by omega), hb2.block _ (by omega)]; exact Z09.out
 have y1 : w3.heap[w.heap.size + 1]? = some (.cells #[.int .i64 0] 3 (0, 0)) := by rw [hu3.block _ (by omega) (by omega), hb2.block _ (by omega)]; exact Z19.out
 have yx : w3.heap[x]? = some (.cells zs t (0, 0)) := by rw [hu3.block _ (by omega) (by omega), hb2.block _ (by omega)]; exact K9.out
 have yb : Below w.heap.size w w3 := (B9.out.trans (hb2.mono (by omega))).trans ⟨hu3.os, hu3.tape, hu3.output, hu3.size, fun k hk => hu3.block k (by omega) (by omega)⟩
 have xs : x ≠ s3 := by omega
 have D3 := Lib.hid (HF.out x (x + 1) 2 s3 w3 yx (by omega) xs hb3)
 have Y0 := Lib.hid y0
 have Y1 := Lib.hid y1
 have YB := Lib.hid yb
 have I3 := Lib.hid hid3
 clear y0 y1 yb yx hb3 hid3 hu3 hR2 hb2 z9 hz2 RQ HF HG R9 Z09 Z19 B9 K9 X2 Q2 B2 e1'
 go_wp2_with fail
 refine D3.out.mono ?_
 rintro e w5 ⟨rfl, hp5, hu5⟩
 have e1' := E1.out
 have hz2 := Z2.out
 have z5 := hu5.size
 have q1 : w5.cell? ⟨x + 1, 1, none⟩ = some (.int .u32 p.f1) := (hu5.low 1 (by omega)).trans I3.out
 have y0 := (hu5.block w.heap.size (by omega) (by omega)).trans Y0.out
 have y1 := (hu5.block (w.heap.size + 1) (by omega) (by omega)).trans Y1.out
 have yb : Below w.heap.size w w5 := YB.out.trans ⟨hu5.os, hu5.tape, hu5.output, hu5.size, fun k hk => hu5.block k (by omega) (by omega)⟩
 have C3 := Lib.hid (hp5 w5 (Below.refl _ _))
 have zz := Lib.hid (show w.heap.size + 1 < w5.heap.size by omega)
 have Y05 := Lib.hid y0
 have Y15 := Lib.hid y1
 have YB5 := Lib.hid yb
 clear hp5 hu5 y0 y1 yb D3 Y0 Y1 YB I3 z3 z5 e1' hz2 xs hs3
 generalize hid0 : p.f1 = id at *
 clear hid0
 go_wp2_with fail
 refine C3.out.mono ?_
 rintro e w4 ⟨P, rfl, hP, hb4⟩
 have zz := zz.out
 have z4 := hb4.size
 have z4' : w5.heap.size ≤ w4.heap.size := z4
 have hP9 := hP.now
 have pone := hP9.one
 have pinf := zDY hP9.size
 have PS := Lib.hid (show P.size = pZero.size from hP9.size)
 have y0 : w4.heap[w.heap.size]? = some (.cells pZero 29 (0, 0)) := by rw [hb4.block _ (by show w.heap.size < w5.heap.size; omega)]; exact Y05.out
 have y1 : w4.heap[w.heap.size + 1]? = some (.cells #[.int .i64 0] 3 (0, 0)) := by rw [hb4.block _ (by show w.heap.size + 1 < w5.heap.size; omega)]; exact Y15.out
 have yb : Below w.heap.size w w4 := YB5.out.trans (hb4.mono (by omega))
 obtain ⟨W5, hW5⟩ : ∃ W, w4.setRow w.heap.size P = W := ⟨_, rfl⟩
 obtain ⟨W6, hW6⟩ : ∃ W, W5.setRow w.heap.size P = W := ⟨_, rfl⟩
 have a5 : W5.heap[w.heap.size]? = some (.cells P 29 (0, 0)) := by rw [← hW5]; exact zAj y0
 have b5 : W5.heap[w.heap.size + 1]? = some (.cells #[.int .i64 0] 3 (0, 0)) := by rw [← hW5, setRow_other _ _ _ _ (by omega)]; exact y1
 have t5 : Below w.heap.size w W5 := by rw [← hW5]; exact ⟨yb.os, yb.tape, yb.output, by rw [setRow_size]; exact yb.size, fun k hk => by rw [setRow_other _ _ _ _ (by omega)]; exact yb.block k hk⟩
 have a6 : W6.heap[w.heap.size]? = some (.cells P 29 (0, 0)) := by rw [← hW6]; exact zAj a5
 have b6 : W6.heap[w.heap.size + 1]? = some (.cells #[.int .i64 0] 3 (0, 0)) := by rw [← hW6, setRow_other _ _ _ _ (by omega)]; exact b5
 have t6 : Below w.heap.size w W6 := by rw [← hW6]; exact ⟨t5.os, t5.tape, t5.output, by rw [setRow_size]; exact t5.size, fun k hk => by rw [setRow_other _ _ _ _ (by omega)]; exact t5.block k hk⟩
 have c6 : W6.cell? ⟨w.heap.size + 1, 0, none⟩ = some (.int .i64 0) := by rw [zAA b6]; rfl
 have f6 : W6.frozen? ⟨w.heap.size + 1, 0, none⟩ = false := zAP b6 0
 have hP7 : PkV (W6.setCell ⟨w.heap.size + 1, 0, none⟩ (.int .i64 0)) P p := by
  refine hP _ ?_ (fun k hk _ => ?_)
  ·rw [show (W6.setCell ⟨w.heap.size + 1, 0, none⟩ (.int .i64 0)).heap.size = W6.heap.size from by simp [World.setCell], ← hW6, setRow_size, ← hW5, setRow_size]
   exact Nat.le_refl _
  ·have hk' : w5.heap.size ≤ k := hk
   rw [Below.heap_setCell _ _ _ _ (by show k ≠ w.heap.size + 1; omega), ← hW6, setRow_other _ _ _ _ (by omega), ← hW5, setRow_other _ _ _ _ (by omega)]
 have V0 := Lib.hid y0
 have X5 := Lib.hid hW5
 have X6 := Lib.hid hW6
 have A5 := Lib.hid a5
 have A6 := Lib.hid a6
 have T6 := Lib.hid t6
 have P7 := Lib.hid hP7
 have PI := Lib.hid pinf
 have PO := Lib.hid pone
 clear y0 y1 yb a5 b5 t5 a6 b6 t6 hW5 hW6 hb4 C3 Y05 Y15 YB5 q1 hP hP9 hP7 pone pinf
 go_wp2_with (first
  | (refine wpList_store_row rfl 29 _ _ rfl w.heap.size P rfl rfl 29 pZero V0.out PI.out PS.out.symm PO.out ?_; rw [X5.out])
  | (refine wpList_load_row rfl 29 _ rfl w.heap.size rfl 29 P (0, 0) _ A5.out Tryz.underlying29 rfl PI.out ?_)
  | (refine wpList_store_row rfl 29 _ _ rfl w.heap.size P rfl rfl 29 P A5.out PI.out rfl PO.out ?_; rw [X6.out]))
 refine leaves_cons (f := 28) (args := #[.pointer (some ⟨w.heap.size, 0, none⟩), .pointer (some ⟨w.heap.size + 1, 0, none⟩)]) (by simp) (by simp [go_sem]) ?_
 refine (zDc _ _ _).mono ?_
 rintro e u' w'' ⟨rfl, rfl, rfl⟩
 have r1 : (W6.setCell ⟨w.heap.size + 1, 0, none⟩ (.int .i64 0)).heap[w.heap.size]? = some (.cells P 29 (0, 0)) := by rw [Below.heap_setCell _ _ _ _ (by show w.heap.size ≠ w.heap.size + 1; omega)]; exact A6.out
 have r2 : (W6.setCell ⟨w.heap.size + 1, 0, none⟩ (.int .i64 0)).cell? ⟨w.heap.size + 1, 0, none⟩ = some (.int .i64 0) := zBZ c6
 have hfin : Below w.heap.size w (W6.setCell ⟨w.heap.size + 1, 0, none⟩ (.int .i64 0)) := T6.out.setCell (by simp) _
 have hP7 := P7.out
 generalize W6.setCell ⟨w.heap.size + 1, 0, none⟩ (.int .i64 0) = W7 at *
 have hl : (loadVar 3 ⟨w.heap.size + 1, 0, none⟩).run Tryz.prog W7 = .ok (.int .i64 0) W7 := by simp [go_sem, r2]
 exact ⟨_, results_cc Tryz.results11 _ _ w.heap.size (w.heap.size + 1) 29 P (0, 0) _ _ rfl rfl r1 Tryz.underlying29 rfl PI.out hl, P, rfl, hP7, hfin⟩
theorem zHy (M : Int) (p : Pk) (s : Sound p) (r : List UInt8) (hM : ((inner p).length : Int) ≤ M) : zBd M (zAq p ++ r) = some (inner p) := by
 have hi := s.inner_len
 rw [zCj, List.append_assoc]
 unfold zBd
 rw [zDF _ _ (by omega) (by omega), if_neg (by rw [List.length_append, zAi]; omega), if_neg (by omega), if_neg (by omega), if_neg (by rw [List.length_append, List.length_append, zAi]; omega)]
 rw [List.drop_append_of_le_length (by rw [zAi]; exact Nat.le_refl _), List.drop_of_length_le (by rw [zAi]; exact Nat.le_refl _), List.nil_append, Int.toNat_natCast, List.take_left]
theorem zOZ (p : Pk) (s : Sound p) (b : ByteArray) (r : List UInt8) (hb : tl b = zAq p ++ r) : (∀ w : World, (Instr.index 9 (.string b) (.int .i64 4)).run Tryz.prog w = .ok (.int .u8 p.f0) w) ∧ 4 < b.size := by
 have e : (tl b)[4]? = some (bt p.f0) := by
  rw [hb, zCj]
  unfold inner
  rfl
 have h := zN8 b _ e
 rw [T27.bt s.ok.ty] at h
 refine ⟨h, ?_⟩
 have h2 := (List.getElem?_eq_some_iff.1 e).1
 rwa [zAH] at h2
theorem zM9 (p : Pk) (s : Sound p) (h12 : ¬ (p.f0 = 1 ∨ p.f0 = 2)) (b : ByteArray) (r : List UInt8) (hb : tl b = zAq p ++ r) (hs : b.size ≤ 1000000000) (M : Int) (hM0 : 0 ≤ M) (hM : M ≤ 1000000000) (hle : ((inner p).length : Int) ≤ M) (w : World) :
  Calls Tryz.prog 11 #[.string b, .int .u32 M] w (zLh p w) := by
 obtain ⟨hi, h4⟩ := zOZ p s b r hb
 have hg : zBd M (tl b) = some (inner p) := by rw [hb]; exact zHy M p s r hle
 have ht := s.ok.ty
 obtain ⟨_, ⟨i0, i1⟩, _⟩ := s.g
 have hc := ht
 unfold T27 at hc
 rcases hc with h | h | h | h | h | h | h | h | h | h | h | h | h | h | h | h | h | h | h | h | h | h | h | h | h | h | h
 ·exact absurd (.inl h) h12
 ·exact absurd (.inr h) h12
 ·exact zAs p _ _ _ _ (zKY p s h) (fun w => by rw [h]; exact zIq w) ht h12 (by unfold zBp; omega) i0 i1 b M w hi h4 hs hM0 hM hg
 ·exact zAs p _ _ _ _ (zIv p s h) (fun w => by rw [h]; exact zGe w) ht h12 (by unfold zBp; omega) i0 i1 b M w hi h4 hs hM0 hM hg
 ·exact zAs p _ _ _ _ (zKX p s h) (fun w => by rw [h]; exact zIr w) ht h12 (by unfold zBp; omega) i0 i1 b M w hi h4 hs hM0 hM hg
 ·exact zAs p _ _ _ _ (zJC p s h) (fun w => by rw [h]; exact zHk w) ht h12 (by unfold zBp; omega) i0 i1 b M w hi h4 hs hM0 hM hg
 ·exact zAs p _ _ _ _ (zIx p s h) (fun w => by rw [h]; exact zHl w) ht h12 (by unfold zBp; omega) i0 i1 b M w hi h4 hs hM0 hM hg
 ·exact zAs p _ _ _ _ (zIw p s h) (fun w => by rw [h]; exact zHm w) ht h12 (by unfold zBp; omega) i0 i1 b M w hi h4 hs hM0 hM hg
 ·exact zAs p _ _ _ _ (zGk p s h) (fun w => by rw [h]; exact zF1 w) ht h12 (by unfold zBp; omega) i0 i1 b M w hi h4 hs hM0 hM hg
 ·exact zAs p _ _ _ _ (zF7 p s h) (fun w => by rw [h]; exact zEy w) ht h12 (by unfold zBp; omega) i0 i1 b M w hi h4 hs hM0 hM hg
 ·exact zAs p _ _ _ _ (zGi p s h) (fun w => by rw [h]; exact zF2 w) ht h12 (by unfold zBp; omega) i0 i1 b M w hi h4 hs hM0 hM hg
 ·exact zAs p _ _ _ _ (zGh p s h) (fun w => by rw [h]; exact zF3 w) ht h12 (by unfold zBp; omega) i0 i1 b M w hi h4 hs hM0 hM hg
 ·exact zAs p _ _ _ _ (zHq p s h) (fun w => by rw [h]; exact zGf w) ht h12 (by unfold zBp; omega) i0 i1 b M w hi h4 hs hM0 hM hg
 ·exact zAs p _ _ _ _ (zIz p s h) (fun w => by rw [h]; exact zHn w) ht h12 (by unfold zBp; omega) i0 i1 b M w hi h4 hs hM0 hM hg
 ·exact zAs p _ _ _ _ (zIy p s h) (fun w => by rw [h]; exact zHo w) ht h12 (by unfold zBp; omega) i0 i1 b M w hi h4 hs hM0 hM hg
 ·exact zAs p _ _ _ _ (zF5 p s h) (fun w => by rw [h]; exact zEz w) ht h12 (by unfold zBp; omega) i0 i1 b M w hi h4 hs hM0 hM hg
 ·exact zAs p _ _ _ _ (zKW p s h) (fun w => by rw [h]; exact zIs w) ht h12 (by unfold zBp; omega) i0 i1 b M w hi h4 hs hM0 hM hg
 ·exact zAs p _ _ _ _ (zHr p s h) (fun w => by rw [h]; exact zGg w) ht h12 (by unfold zBp; omega) i0 i1 b M w hi h4 hs hM0 hM hg
 ·exact zAs p _ _ _ _ (zF6 p s h) (fun w => by rw [h]; exact zFA w) ht h12 (by unfold zBp; omega) i0 i1 b M w hi h4 hs hM0 hM hg
 ·exact zAs p _ _ _ _ (zGj p s h) (fun w => by rw [h]; exact zF4 w) ht h12 (by unfold zBp; omega) i0 i1 b M w hi h4 hs hM0 hM hg
 ·exact zBj p _ _ _ _ (zHs p s h) (fun w => by rw [h]; exact zIt w) ht h12 i0 i1 b M w hi h4 hs hM0 hM hg
 ·exact zBj p _ _ _ _ (zHp p s h) (fun w => by rw [h]; exact zIu w) ht h12 i0 i1 b M w hi h4 hs hM0 hM hg
 ·exact zBj p _ _ _ _ (zK2 p s h) (fun w => by rw [h]; exact zLi w) ht h12 i0 i1 b M w hi h4 hs hM0 hM hg
 ·exact zBj p _ _ _ _ (zK3 p s h) (fun w => by rw [h]; exact zLj w) ht h12 i0 i1 b M w hi h4 hs hM0 hM hg
 ·exact zBj p _ _ _ _ (zJA p s h) (fun w => by rw [h]; exact zKV w) ht h12 i0 i1 b M w hi h4 hs hM0 hM hg
 ·exact zBj p _ _ _ _ (zD4 p s h) (fun w => by rw [h]; exact zDs w) ht h12 i0 i1 b M w hi h4 hs hM0 hM hg
 ·exact zAs p _ _ _ _ (zFc p s h) (fun w => by rw [h]; exact zFB w) ht h12 (by unfold zBp; omega) i0 i1 b M w hi h4 hs hM0 hM hg
theorem zLo (p : Pk) (s : Sound p) {w : World} {P Q : Array Value} (hP : PkV w P p) (hQ : PkV w Q p) : Calls Tryz.prog 12 #[.agg P, .agg Q] w fun r w' => r = .returned (.bool true) ∧ Below w.heap.size w w' := by
 obtain ⟨A1, c1, A2, c2, A3, c3, rfl, h1, h2, h3⟩ := hP
 obtain ⟨B1, d1, B2, d2, B3, d3, rfl, g1, g2, g3⟩ := hQ
 have h9 := zDq s.ok.told
 refine (zMl p p A1 c1 A2 c2 A3 c3 B1 d1 B2 d2 B3 d3 w h1 g1 h2 g2 h3 g3 (by omega) (by have := s.ok.n10; omega) (by have := s.ok.n11; omega) (fun e he => by have := zDq (s.ok.ntold e he); omega)).mono ?_
 rintro e w' ⟨rfl, hb⟩
 exact ⟨by rw [eqB_iff.2 rfl], hb⟩
theorem Sound.inner_small {p : Pk} (s : Sound p) (h : ¬ (p.f0 = 1 ∨ p.f0 = 2)) : (inner p).length ≤ 1048576 := by
 rw [zDr h]
 have hb := s.body
 simp only [List.length_cons, List.length_append, zAi]
 omega
theorem zGq (a b : ByteArray) : tl (a ++ b) = tl a ++ tl b := by
 exact zJb a b
structure At2 (w : World) (x : Nat) (P : Array Value) (p : Pk) : Prop where
 blk : w.heap[x]? = some (.cells P 29 (0, 0))
 row : PkV w P p
theorem At2.below {w w' : World} {x : Nat} {P : Array Value} {p : Pk} (h : At2 w x P p) (hb : Below w.heap.size w w') : At2 w' x P p := ⟨(hb.block _ (zAC h.blk)).trans h.blk, h.row.below hb⟩
theorem At2.cell {w : World} {x : Nat} {P : Array Value} {p : Pk} (h : At2 w x P p) : w.cell? ⟨x, 0, none⟩ = some (.int .i64 p.f0) := by
 obtain ⟨A1, c1, A2, c2, A3, c3, rfl, _⟩ := h.row
 rw [zAA h.blk]
 rfl
theorem zMp (p : Pk) {w : World} {P : Array Value} (h : PkV w P p) : Calls Tryz.prog 8 #[.agg P] w (zOT p w) := by
 obtain ⟨A1, c1, A2, c2, A3, c3, rfl, h1, h2, h3⟩ := h
 exact zOU p A1 c1 A2 c2 A3 c3 w h1 h2 h3
theorem zJ4 (p : Pk) {w : World} {P : Array Value} (h : PkV w P p) (f : zM0 p) : Calls Tryz.prog 9 #[.agg P] w (PkR p w) := by
 obtain ⟨A1, c1, A2, c2, A3, c3, rfl, h1, h2, h3⟩ := h
 exact zM2 p A1 c1 A2 c2 A3 c3 w h1 h2 h3 f
theorem zLp (p : Pk) (s : Sound p) {w : World} {P : Array Value} (h : PkV w P p) : Calls Tryz.prog 10 #[.agg P] w fun e w' => e = .returned (.tuple #[.string (bs (zAq p)), .int .i64 0]) ∧ Below w.heap.size w w' := by
 obtain ⟨A1, c1, A2, c2, A3, c3, rfl, h1, h2, h3⟩ := h
 exact zL5 p s A1 c1 A2 c2 A3 c3 w h1 h2 h3
theorem zMa (p q : Pk) (P Q : Array Value) (w : World) (hP : PkV w P p) (hQ : PkV w Q q) (g : zDH p) (g2 : zDH q) :
  Calls Tryz.prog 7 #[.agg P, .agg Q] w fun r w' => r = .returned (.bool true) ∧ Below w.heap.size w w' := by
 obtain ⟨W0, hW0⟩ : ∃ W, w.alloc (.cells P 29) = W := ⟨_, rfl⟩
 obtain ⟨W1, hW1⟩ : ∃ W, W0.alloc (.cells Q 29) = W := ⟨_, rfl⟩
 have b0 : Below w.heap.size w W0 := by rw [← hW0]; exact below_alloc _ _
 have b1 : Below W0.heap.size W0 W1 := by rw [← hW1]; exact below_alloc _ _
 have z0 : W0.heap.size = w.heap.size + 1 := by rw [← hW0]; simp
 have k0 : W0.heap[w.heap.size]? = some (.cells P 29 (0, 0)) := by rw [← hW0]; exact heap_alloc_new _ _
 have k1 : W1.heap[W0.heap.size]? = some (.cells Q 29 (0, 0)) := by rw [← hW1]; exact heap_alloc_new _ _
 have PI : (Tryz.prog.info? 29).map (·.size) = some P.size := zDY hP.size
 have QI : (Tryz.prog.info? 29).map (·.size) = some Q.size := zDY hQ.size
 have a1 : At2 W1 w.heap.size P p := ⟨(b1.block _ (by omega)).trans k0, (hP.below b0).below b1⟩
 have a2 : At2 W1 W0.heap.size Q q := ⟨k1, (hQ.below b0).below b1⟩
 have bb : Below w.heap.size w W1 := b0.trans (b1.mono b0.size)
 have C := zMp p a1.row
 generalize hy : W0.heap.size = y at *
 have X0 := Lib.hid hW0
 have X1 := Lib.hid hW1
 have A1 := Lib.hid a1
 have A2 := Lib.hid a2
 have B1 := Lib.hid bb
 have PI := Lib.hid PI
 have QI := Lib.hid QI
 have C := Lib.hid C
 have HY := Lib.hid hy
 clear hW0 hW1 b0 b1 z0 k0 k1 a1 a2 bb hP hQ hy
 go_enter Tryz.func7, Tryz.ntmps7
 go_wp2_with (first
  | (refine wpList_boxTo rfl 29 _ rfl (some 2) rfl w.heap.size rfl P rfl ?_; rw [X0.out])
  | (refine wpList_boxTo rfl 29 _ rfl (some 3) rfl y HY.out Q rfl ?_; rw [X1.out])
  | refine wpList_load_row rfl 29 _ rfl w.heap.size rfl 29 P (0, 0) _ A1.out.blk Tryz.underlying29 rfl PI.out ?_)
 refine C.out.mono ?_
 rintro r w2 ⟨⟨fit, rfl, hfit⟩, hb⟩
 have B2 := Lib.hid (B1.out.trans (hb.mono B1.out.size))
 have A1 := Lib.hid (A1.out.below hb)
 have A2 := Lib.hid (A2.out.below hb)
 clear hb B1
 clear C X0 X1
 cases fit with
 | false =>
  go_wp2_with fail
  go_ret
  exact ⟨rfl, B2.out⟩
 | true =>
  have f1 := hfit rfl
  have C := Lib.hid (zMp q A2.out.row)
  clear hfit
  go_wp2_with (refine zBf (by rfl) 29 _ rfl y rfl 29 Q (0, 0) _ A2.out.blk Tryz.underlying29 rfl QI.out ?_)
  refine C.out.mono ?_
  rintro r w3 ⟨⟨fit2, rfl, hfit2⟩, hb⟩
  have B3 := Lib.hid (B2.out.trans (hb.mono B2.out.size))
  have A1 := Lib.hid (A1.out.below hb)
  have A2 := Lib.hid (A2.out.below hb)
  clear hb B2
  clear C
  cases fit2 with
  | false =>
   go_wp2_with fail
   go_ret
   exact ⟨rfl, B3.out⟩
  | true =>
   have f2 := hfit2 rfl
   have C := Lib.hid (zJ4 p A1.out.row f1)
   clear hfit2 f1
   go_wp2_with (refine zBf (by rfl) 29 _ rfl w.heap.size rfl 29 P (0, 0) _ A1.out.blk Tryz.underlying29 rfl PI.out ?_)
   refine C.out.mono ?_
   rintro r w4 ⟨⟨r, rfl, hyes⟩, hb⟩
   have B4 := Lib.hid (B3.out.trans (hb.mono B3.out.size))
   have A1 := Lib.hid (A1.out.below hb)
   have A2 := Lib.hid (A2.out.below hb)
   clear hb B3
   clear C
   cases r with
   | false =>
    go_wp2_with fail
    go_ret
    exact ⟨rfl, B4.out⟩
   | true =>
    have S1 : Sound p := ⟨hyes rfl, g⟩
    have C := Lib.hid (zJ4 q A2.out.row f2)
    clear hyes f2 g
    go_wp2_with (refine zBf (by rfl) 29 _ rfl y rfl 29 Q (0, 0) _ A2.out.blk Tryz.underlying29 rfl QI.out ?_)
    refine C.out.mono ?_
    rintro r w5 ⟨⟨r, rfl, hyes⟩, hb⟩
    have B5 := Lib.hid (B4.out.trans (hb.mono B4.out.size))
    have A1 := Lib.hid (A1.out.below hb)
    have A2 := Lib.hid (A2.out.below hb)
    clear hb B4
    clear C
    cases r with
    | false =>
     go_wp2_with fail
     go_ret
     exact ⟨rfl, B5.out⟩
    | true =>
     have S2 : Sound q := ⟨hyes rfl, g2⟩
     clear hyes g2
     have c1 := A1.out.cell
     have c2 := A2.out.cell
     by_cases h1 : p.f0 ≤ 2
     ·clear S1 S2
      generalize p.f0 = tp at c1 h1
      clear A1 A2
      go_wp2_with fail
      go_ret
      exact ⟨rfl, B5.out⟩
     by_cases h2 : q.f0 ≤ 2
     ·clear S1 S2
      generalize p.f0 = tp at c1 h1
      generalize q.f0 = tq at c2 h2
      clear A1 A2
      go_wp2_with fail
      go_ret
      exact ⟨rfl, B5.out⟩
     have hn : ¬ (p.f0 = 1 ∨ p.f0 = 2) := by omega
     have s1 := zH4 p S1
     have s2 := zH4 q S2
     have hl : (zAq p).length = 4 + (inner p).length := by rw [zCj, List.length_append, zAi]
     have zs : (bs (zAq p) ++ bs (zAq q)).size ≤ 1000000000 := by rw [← zAH, zGq, zDR, zDR, List.length_append]; omega
     have zq : (bs (zAq q)).size = (zAq q).length := by rw [← zAH, zDR]
     have zp : (bs (zAq p)).size = (zAq p).length := by rw [← zAH, zDR]
     have zc : ¬ ((bs (zAq p)).size + (bs (zAq q)).size > 9223372036854775807) := by omega
     have hi := S1.inner_small hn
     have gg : zBd 1048576 (tl (bs (zAq p) ++ bs (zAq q))) = some (inner p) := by rw [zGq, zDR, zDR]; exact zHy _ p S1 _ (by omega)
     have i9 := S1.g.2.1
     have RT := Lib.hid (fun (w : World) => zOY (bs (zAq p) ++ bs (zAq q)) p.f0 p.f1 (zA1 p) (inner p) 1048576 w S1.ok.ty i9.1 i9.2 zs (by omega) (by omega) gg (zDr hn))
     have RD := Lib.hid (fun (w : World) => zM9 p S1 hn (bs (zAq p) ++ bs (zAq q)) (zAq q) (by rw [zGq, zDR, zDR]) zs 1048576 (by omega) (by omega) (by omega) w)
     have SS := Lib.hid (fun (W : World) (P Q : Array Value) (h : PkV W P p) (h' : PkV W Q p) => zLo p S1 h h')
     have dl : ((tl (bs (zAq p) ++ bs (zAq q))).drop (4 + (inner p).length)).length = (bs (zAq q)).size := by rw [zGq, zDR, zDR, ← hl, List.drop_left, zq]
     rw [dl] at RT
     have C := Lib.hid (zLp p S1 A1.out.row)
     have WQ := Lib.hid (fun (w : World) (h : PkV w Q q) => zLp q S2 h)
     clear S1 S2 hn gg hi hl i9 dl s1 zp zq s2
     generalize p.f0 = tp at c1 h1
     generalize q.f0 = tq at c2 h2
     generalize zAq p = L1 at *
     generalize zAq q = L2 at *
     go_wp2_with (refine wpList_load_row rfl 29 _ rfl w.heap.size rfl 29 P (0, 0) _ A1.out.blk Tryz.underlying29 rfl PI.out ?_)
     refine C.out.mono ?_
     rintro r w6 ⟨rfl, hb⟩
     have B6 := Lib.hid (B5.out.trans (hb.mono B5.out.size))
     have A1 := Lib.hid (A1.out.below hb)
     have A2 := Lib.hid (A2.out.below hb)
     clear hb B5
     have C := Lib.hid (WQ.out w6 A2.out.row)
     clear WQ c1 c2 h1 h2
     go_wp2_with (refine wpList_load_row rfl 29 _ rfl y rfl 29 Q (0, 0) _ A2.out.blk Tryz.underlying29 rfl QI.out ?_)
     refine C.out.mono ?_
     rintro r w7 ⟨rfl, hb⟩
     have B7 := Lib.hid (B6.out.trans (hb.mono B6.out.size))
     have A1 := Lib.hid (A1.out.below hb)
     have A2 := Lib.hid (A2.out.below hb)
     clear hb B6
     clear C
     have C := Lib.hid (RD.out w7)
     go_wp2_with fail
     refine C.out.mono ?_
     rintro r w8 ⟨R, rfl, hR, hb⟩
     have B8 := Lib.hid (B7.out.trans (hb.mono B7.out.size))
     have A1 := Lib.hid (A1.out.below hb)
     have A2 := Lib.hid (A2.out.below hb)
     clear hb B7
     clear C RD
     have RS := Lib.hid (show R.size = pZero.size from hR.size)
     have RO := Lib.hid hR.one
     have RI := Lib.hid (zDY hR.size)
     obtain ⟨W9, hW9⟩ : ∃ W, w8.alloc (.cells pZero 29) = W := ⟨_, rfl⟩
     obtain ⟨W10, hW10⟩ : ∃ W, W9.setRow w8.heap.size R = W := ⟨_, rfl⟩
     have k9 : W9.heap[w8.heap.size]? = some (.cells pZero 29 (0, 0)) := by rw [← hW9]; exact heap_alloc_new _ _
     have k10 : W10.heap[w8.heap.size]? = some (.cells R 29 (0, 0)) := by rw [← hW10]; exact zAj k9
     have hb : Below w8.heap.size w8 W10 := by rw [← hW10, ← hW9]; exact zBX (Below.refl _ _) (Nat.le_refl _) _ _ _
     have R10 := hR.below hb
     have X9 := Lib.hid hW9
     have X10 := Lib.hid hW10
     have K9 := Lib.hid k9
     have K10 := Lib.hid k10
     clear hW9 hW10 k9 k10 hR
     have B9 := Lib.hid (B8.out.trans (hb.mono B8.out.size))
     have A1 := Lib.hid (A1.out.below hb)
     have A2 := Lib.hid (A2.out.below hb)
     clear hb B8
     have SC := Lib.hid (SS.out W10 R P R10 A1.out.row)
     clear SS R10 zs
     go_wp2_with (first
      | (go_at_call 12; refine SC.out.mono ?_; rintro e w11 ⟨rfl, hb11⟩)
      | (go_at_call 16; refine (RT.out _).mono ?_; rintro e w12 ⟨rfl, hb12⟩)
      | (go_at_call 13; refine (zNs _).mono ?_; rintro e w' ⟨rfl, hb13⟩)
      | (refine wpList_allocTo rfl (some 9) rfl (.pointer (some ⟨w8.heap.size, 0, none⟩)) (.cells pZero 29) (by as_aux_lemma => kernel_rfl) ?_; rw [X9.out])
      | (refine wpList_store_row rfl 29 _ _ rfl w8.heap.size R rfl rfl 29 pZero K9.out RI.out RS.out.symm RO.out ?_; rw [X10.out])
      | refine zBf (by rfl) 29 _ rfl w.heap.size rfl 29 P (0, 0) _ A1.out.blk Tryz.underlying29 rfl PI.out ?_
      | refine zBf (by rfl) 29 _ rfl w8.heap.size rfl 29 R (0, 0) _ K10.out Tryz.underlying29 rfl RI.out ?_)
     go_ret
     exact ⟨rfl, ((B9.out.trans (hb11.mono B9.out.size)).trans (hb12.mono (Nat.le_trans B9.out.size hb11.size))).trans (hb13.mono (Nat.le_trans (Nat.le_trans B9.out.size hb11.size) hb12.size))⟩
theorem zO0 (cs : Array Value) (y : Pk) (ds : Array Value) (z : Pk) (W : World) (hK : k29.K W y cs.toList) (hG : zDH y) (hL : k29.K W z ds.toList) (hH : zDH z) :
  Calls Tryz.prog 7 #[.agg cs, .agg ds] W fun r w' => r = .returned (.bool true) ∧ Below W.heap.size W w' :=
 zMa y z cs ds W (zJ1 hK) (zJ1 hL) hG hH
end Go.Proofs.YtgnficcjnijdbaaGreat
namespace Go.Proofs.YtgnficcjnijdbaaGreat
open Go.RowKit Go.Great Go.ChangeShapes Go.WideShapes Go.ChangeAt Go.Proofs.YtgnficcjnijdbaaGreatW.PrintWords Go.Proofs.YtgnficcjnijdbaaGreat.KK
open Go.ChangeMaps (open_string shut_string)
theorem zLq : ownKnob Tryz.prog.godebug = none := by kernel_rfl
theorem zFs : laidOutB Tryz.prog = true := by kernel_rfl
set_option maxRecDepth 100000 in
theorem zHz (os : Os) (started : os.Started) (H : Type) (enc : TypeId × Value → H) :
  ReturnsInHanded {} Tryz.checked os 7 .any (Rows.fnWireTwoSpec.pre6 enc Tryz.prog Tryz.f7 Rows.fnWireTwoRow.domain false) (Rows.fnWireTwoSpec.post enc Tryz.prog Tryz.f7 false true false false) := by
 refine returnsInHanded_of_change (C := Tryz.checked) zLq started (by kernel_rfl) Tryz.func7
  (ChangeSpec.witness6 (enc := enc) (C := Tryz.checked) false ⟨#[], #[.agg pZero, .agg pZero], []⟩ 8 (by kernel_rfl) (by kernel_rfl) (by kernel_rfl) (by kernel_rfl)) ?_
 intro W base args ds gs before hval0 hW hcnd _
 have hval : ∀ (j : Nat) t v, Tryz.f7.params[j]? = some t → args[j]? = some v → Value.okWide Tryz.prog W .any base t v := hval0
 have hW' := hW
 have hlt : ∀ x ∈ before, x.block < W.heap.size := fun x hx => hW.lt x hx
 obtain ⟨p, q, hA0, hV, rfl, hfz, hnd⟩ := hW
 have hA : DataW.TrodAll enc Tryz.prog W 0 (fun _ => true) true Tryz.f7.params.toList args.toList ds p := hA0
 rw [Tryz.params7] at hA hval
 obtain ⟨v0, vs0, d0, ds0, p0, q0, hargs, rfl, rfl, h0, r0⟩ := trodAll_cons hA
 obtain ⟨v1, vs1, d1, ds1, p1, q1, rfl, rfl, rfl, h1, r1⟩ := trodAll_cons r0
 obtain ⟨rfl, rfl, rfl⟩ := trodAll_nil r1
 obtain rfl : args = #[v0, v1] := by cases args; simp_all
 obtain ⟨rfl, rfl⟩ := trodVars_none hV
 simp only [List.append_nil] at hW' hlt
 obtain ⟨cs0, rfl, _⟩ := okWide_struct Tryz.underlying29 (hval 0 29 v0 rfl rfl)
 have t0 := h0
 obtain ⟨fuel0, hf0⟩ := h0
 obtain ⟨y0, hK0, hG0⟩ := opnPacket.out hf0
 obtain ⟨cs1, rfl, _⟩ := okWide_struct Tryz.underlying29 (hval 1 29 v1 rfl rfl)
 have t1 := h1
 obtain ⟨fuel1, hf1⟩ := h1
 obtain ⟨y1, hK1, hG1⟩ := opnPacket.out hf1
 clear hA0 hval0
 refine (zO0 cs0 y0 cs1 y1 W hK0 hG0 hK1 hG1).mono fun e W' ⟨he, hg⟩ => ?_
 subst he
 exact ⟨_, rfl, zFP (pa := _) (pv := []) hW' (fun _ _ _ => (trodAll_cons_mk (shut_bool Tryz.underlying4 _) trodAll_mk0))
  (fun sp hsp0 => by
   have hsp1 := hsp0
   have s0 := WideElems.Trod_stays zFs (by kernel_rfl) (of_decide_eq_true (by kernel_rfl)) t0 (fun x hx => hg.same (hlt x (by simp [hx]))) (fun x hx => hsp0 x (by simp [hx]))
   have s1 := WideElems.Trod_stays zFs (by kernel_rfl) (of_decide_eq_true (by kernel_rfl)) t1 (fun x hx => hg.same (hlt x (by simp [hx]))) (fun x hx => hsp0 x (by simp [hx]))
   have r := (trodAll_cons_mk (s0) (trodAll_cons_mk (s1) trodAll_mk0))
   simp only [List.append_nil, List.nil_append] at r
   exact r) (fun _ _ => rfl) (by simp)
  hg (ok_one (by kernel_rfl) rfl (okWide_bool_mk Tryz.underlying4 _))⟩
theorem zJE : Tryz.pinned.checked.prog.funcNamed Rows.fnWireTwoRow.func = some 7 := by kernel_rfl
theorem zJF : joinedFacts Tryz.pinned.checked.prog 7 Tryz.f7 Rows.fnWireTwoSpec Rows.fnWireTwoRow = true := by
 simp only [joinedFacts, Bool.and_eq_true]
 repeat' apply And.intro
 all_goals (as_aux_lemma => kernel_rfl)
theorem zK6 : Tryz.f7.isInstance Tryz.pinned.checked.prog Rows.fnWireTwoRow.origin Rows.fnWireTwoRow.targs := of_decide_eq_true (by kernel_rfl)
theorem zK7 : Tryz.f7.isWrapper Tryz.pinned.checked.prog Rows.fnWireTwoRow.wrapper Rows.fnWireTwoRow.mainSum := by
 unfold Func.isWrapper
 rw [if_neg (by decide +kernel)]
 exact ⟨rfl, rfl⟩
theorem twoW_holds : Rows.FnWireTwoSaid :=
 OpenClaim.holds_of_wide 7 Tryz.f7 rfl rfl rfl rfl rfl rfl rfl ⟨rfl, rfl, rfl, rfl, rfl⟩ rfl rfl rfl rfl rfl zJE Tryz.func7 zJF zK6 zK7
  (fun os started H enc _ => zHz os started H enc)
end Go.Proofs.YtgnficcjnijdbaaGreat
