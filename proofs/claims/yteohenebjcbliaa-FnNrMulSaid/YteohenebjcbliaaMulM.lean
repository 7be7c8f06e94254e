/- The arithmetic of the Montgomery product of 4 words: of the executor's nodes of Element.Mul. Conditions: words below 2^64, a factor below the modulus. -/
import Derived.Test.YteohenebjcbliaaSlxU
namespace Go.Proofs.Yteohenebjcbliaa
open Slx

theorem round4_first ( v m y0 y1 y2 y3 q0 q1 q2 q3 x0 x1 x2 x3 x4 x5 x6 x7 x8 x9 x10 x11 x12 x13 x14 x15 x17 x18 x19 x20 x21 x22 x23 x24 x25 x26 x27 x28 x29 x30 x31 x32 x33 x34 x35 x36 x37 x38 x39 x40 x41 x42 x43 x44 x45 x46 : Nat) (z : x19 = 0) (h0 : x1 + 18446744073709551616 * x0 = v * y0) (h2 : x3 + 18446744073709551616 * x2 = v * y1) (h4 : x5 + 18446744073709551616 * x4 = v * y2) (h6 : x7 + 18446744073709551616 * x6 = v * y3) (h8 : x8 + 18446744073709551616 * x9 = x0 + x3 + 0) (h10 : x10 + 18446744073709551616 * x11 = x2 + x5 + x9) (h12 : x12 + 18446744073709551616 * x13 = x4 + x7 + x11) (h14 : x14 + 18446744073709551616 * x15 = x6 + 0 + x13) (h17 : x18 + 18446744073709551616 * x17 = m * q0) (h19 : x19 + 18446744073709551616 * x20 = x1 + x18 + 0) (h21 : x22 + 18446744073709551616 * x21 = m * q1) (h23 : x23 + 18446744073709551616 * x24 = x8 + x22 + x20) (h25 : x26 + 18446744073709551616 * x25 = m * q2) (h27 : x27 + 18446744073709551616 * x28 = x10 + x26 + x24) (h29 : x30 + 18446744073709551616 * x29 = m * q3) (h31 : x31 + 18446744073709551616 * x32 = 0 + x30 + x28) (h33 : x33 + 18446744073709551616 * x34 = x29 + 0 + x32) (h35 : x35 + 18446744073709551616 * x36 = x17 + x23 + 0) (h37 : x37 + 18446744073709551616 * x38 = x21 + x27 + x36) (h39 : x39 + 18446744073709551616 * x40 = x25 + x31 + x38) (h41 : x41 + 18446744073709551616 * x42 = x14 + 0 + x40) (h43 : x43 + 18446744073709551616 * x44 = x12 + x39 + 0) (h45 : x45 + 18446744073709551616 * x46 = x33 + x41 + x44)
    (hb : (v * y0) + 18446744073709551616 * (v * y1) + 340282366920938463463374607431768211456 * (v * y2) + 6277101735386680763835789423207666416102355444464034512896 * (v * y3) + (m * q0) + 18446744073709551616 * (m * q1) + 340282366920938463463374607431768211456 * (m * q2) + 6277101735386680763835789423207666416102355444464034512896 * (m * q3) < 2135987035920910082395021706169552114602704522356652769947041607822219725780640550022962086936576) :
    18446744073709551616 * x35 + 340282366920938463463374607431768211456 * x37 + 6277101735386680763835789423207666416102355444464034512896 * x43 + 115792089237316195423570985008687907853269984665640564039457584007913129639936 * x45 = (v * y0) + 18446744073709551616 * (v * y1) + 340282366920938463463374607431768211456 * (v * y2) + 6277101735386680763835789423207666416102355444464034512896 * (v * y3) + (m * q0) + 18446744073709551616 * (m * q1) + 340282366920938463463374607431768211456 * (m * q2) + 6277101735386680763835789423207666416102355444464034512896 * (m * q3) := by
  generalize v * y0 = P0 at *
  generalize m * q0 = R0 at *
  generalize v * y1 = P1 at *
  generalize m * q1 = R1 at *
  generalize v * y2 = P2 at *
  generalize m * q2 = R2 at *
  generalize v * y3 = P3 at *
  generalize m * q3 = R3 at *
  omega

theorem round4_next (t0 t1 t2 t3 v m y0 y1 y2 y3 q0 q1 q2 q3 x0 x1 x2 x3 x4 x5 x6 x7 x8 x9 x10 x11 x12 x13 x14 x15 x16 x17 x18 x19 x20 x21 x22 x23 x24 x25 x27 x28 x29 x30 x31 x32 x33 x34 x35 x36 x37 x38 x39 x40 x41 x42 x43 x44 x45 x46 x47 x48 x49 x50 x51 x52 x53 x54 x55 x56 : Nat) (z : x29 = 0) (h0 : x1 + 18446744073709551616 * x0 = v * y0) (h2 : x2 + 18446744073709551616 * x3 = x1 + t0 + 0) (h4 : x5 + 18446744073709551616 * x4 = v * y1) (h6 : x6 + 18446744073709551616 * x7 = x5 + t1 + x3) (h8 : x9 + 18446744073709551616 * x8 = v * y2) (h10 : x10 + 18446744073709551616 * x11 = x9 + t2 + x7) (h12 : x13 + 18446744073709551616 * x12 = v * y3) (h14 : x14 + 18446744073709551616 * x15 = x13 + t3 + x11) (h16 : x16 + 18446744073709551616 * x17 = 0 + 0 + x15) (h18 : x18 + 18446744073709551616 * x19 = x0 + x6 + 0) (h20 : x20 + 18446744073709551616 * x21 = x4 + x10 + x19) (h22 : x22 + 18446744073709551616 * x23 = x8 + x14 + x21) (h24 : x24 + 18446744073709551616 * x25 = x12 + x16 + x23) (h27 : x28 + 18446744073709551616 * x27 = m * q0) (h29 : x29 + 18446744073709551616 * x30 = x2 + x28 + 0) (h31 : x32 + 18446744073709551616 * x31 = m * q1) (h33 : x33 + 18446744073709551616 * x34 = x18 + x32 + x30) (h35 : x36 + 18446744073709551616 * x35 = m * q2) (h37 : x37 + 18446744073709551616 * x38 = x20 + x36 + x34) (h39 : x40 + 18446744073709551616 * x39 = m * q3) (h41 : x41 + 18446744073709551616 * x42 = 0 + x40 + x38) (h43 : x43 + 18446744073709551616 * x44 = x39 + 0 + x42) (h45 : x45 + 18446744073709551616 * x46 = x27 + x33 + 0) (h47 : x47 + 18446744073709551616 * x48 = x31 + x37 + x46) (h49 : x49 + 18446744073709551616 * x50 = x35 + x41 + x48) (h51 : x51 + 18446744073709551616 * x52 = x24 + 0 + x50) (h53 : x53 + 18446744073709551616 * x54 = x22 + x49 + 0) (h55 : x55 + 18446744073709551616 * x56 = x43 + x51 + x54)
    (hb : t0 + 18446744073709551616 * t1 + 340282366920938463463374607431768211456 * t2 + 6277101735386680763835789423207666416102355444464034512896 * t3 + (v * y0) + 18446744073709551616 * (v * y1) + 340282366920938463463374607431768211456 * (v * y2) + 6277101735386680763835789423207666416102355444464034512896 * (v * y3) + (m * q0) + 18446744073709551616 * (m * q1) + 340282366920938463463374607431768211456 * (m * q2) + 6277101735386680763835789423207666416102355444464034512896 * (m * q3) < 2135987035920910082395021706169552114602704522356652769947041607822219725780640550022962086936576) :
    18446744073709551616 * x45 + 340282366920938463463374607431768211456 * x47 + 6277101735386680763835789423207666416102355444464034512896 * x53 + 115792089237316195423570985008687907853269984665640564039457584007913129639936 * x55 = t0 + 18446744073709551616 * t1 + 340282366920938463463374607431768211456 * t2 + 6277101735386680763835789423207666416102355444464034512896 * t3 + (v * y0) + 18446744073709551616 * (v * y1) + 340282366920938463463374607431768211456 * (v * y2) + 6277101735386680763835789423207666416102355444464034512896 * (v * y3) + (m * q0) + 18446744073709551616 * (m * q1) + 340282366920938463463374607431768211456 * (m * q2) + 6277101735386680763835789423207666416102355444464034512896 * (m * q3) := by
  generalize v * y0 = P0 at *
  generalize m * q0 = R0 at *
  generalize v * y1 = P1 at *
  generalize m * q1 = R1 at *
  generalize v * y2 = P2 at *
  generalize m * q2 = R2 at *
  generalize v * y3 = P3 at *
  generalize m * q3 = R3 at *
  omega


def mulNodes : List Nd := [.mulhi (.cel 1 0) (.cel 2 0),
  .mullo (.cel 1 0) (.cel 2 0),
  .mulhi (.cel 1 0) (.cel 2 1),
  .mullo (.cel 1 0) (.cel 2 1),
  .mulhi (.cel 1 0) (.cel 2 2),
  .mullo (.cel 1 0) (.cel 2 2),
  .mulhi (.cel 1 0) (.cel 2 3),
  .mullo (.cel 1 0) (.cel 2 3),
  .addlo (.node 0) (.node 3) (.lit 0),
  .addhi (.node 0) (.node 3) (.lit 0),
  .addlo (.node 2) (.node 5) (.node 9),
  .addhi (.node 2) (.node 5) (.node 9),
  .addlo (.node 4) (.node 7) (.node 11),
  .addhi (.node 4) (.node 7) (.node 11),
  .addlo (.node 6) (.lit 0) (.node 13),
  .addhi (.node 6) (.lit 0) (.node 13),
  .mulw (.lit 14042775128853446655) (.node 1),
  .mulhi (.node 16) (.lit 4891460686036598785),
  .mullo (.node 16) (.lit 4891460686036598785),
  .addlo (.node 1) (.node 18) (.lit 0),
  .addhi (.node 1) (.node 18) (.lit 0),
  .mulhi (.node 16) (.lit 2896914383306846353),
  .mullo (.node 16) (.lit 2896914383306846353),
  .addlo (.node 8) (.node 22) (.node 20),
  .addhi (.node 8) (.node 22) (.node 20),
  .mulhi (.node 16) (.lit 13281191951274694749),
  .mullo (.node 16) (.lit 13281191951274694749),
  .addlo (.node 10) (.node 26) (.node 24),
  .addhi (.node 10) (.node 26) (.node 24),
  .mulhi (.node 16) (.lit 3486998266802970665),
  .mullo (.node 16) (.lit 3486998266802970665),
  .addlo (.lit 0) (.node 30) (.node 28),
  .addhi (.lit 0) (.node 30) (.node 28),
  .addlo (.node 29) (.lit 0) (.node 32),
  .addhi (.node 29) (.lit 0) (.node 32),
  .addlo (.node 17) (.node 23) (.lit 0),
  .addhi (.node 17) (.node 23) (.lit 0),
  .addlo (.node 21) (.node 27) (.node 36),
  .addhi (.node 21) (.node 27) (.node 36),
  .addlo (.node 25) (.node 31) (.node 38),
  .addhi (.node 25) (.node 31) (.node 38),
  .addlo (.node 14) (.lit 0) (.node 40),
  .addhi (.node 14) (.lit 0) (.node 40),
  .addlo (.node 12) (.node 39) (.lit 0),
  .addhi (.node 12) (.node 39) (.lit 0),
  .addlo (.node 33) (.node 41) (.node 44),
  .addhi (.node 33) (.node 41) (.node 44),
  .mulhi (.cel 1 1) (.cel 2 0),
  .mullo (.cel 1 1) (.cel 2 0),
  .addlo (.node 48) (.node 35) (.lit 0),
  .addhi (.node 48) (.node 35) (.lit 0),
  .mulhi (.cel 1 1) (.cel 2 1),
  .mullo (.cel 1 1) (.cel 2 1),
  .addlo (.node 52) (.node 37) (.node 50),
  .addhi (.node 52) (.node 37) (.node 50),
  .mulhi (.cel 1 1) (.cel 2 2),
  .mullo (.cel 1 1) (.cel 2 2),
  .addlo (.node 56) (.node 43) (.node 54),
  .addhi (.node 56) (.node 43) (.node 54),
  .mulhi (.cel 1 1) (.cel 2 3),
  .mullo (.cel 1 1) (.cel 2 3),
  .addlo (.node 60) (.node 45) (.node 58),
  .addhi (.node 60) (.node 45) (.node 58),
  .addlo (.lit 0) (.lit 0) (.node 62),
  .addhi (.lit 0) (.lit 0) (.node 62),
  .addlo (.node 47) (.node 53) (.lit 0),
  .addhi (.node 47) (.node 53) (.lit 0),
  .addlo (.node 51) (.node 57) (.node 66),
  .addhi (.node 51) (.node 57) (.node 66),
  .addlo (.node 55) (.node 61) (.node 68),
  .addhi (.node 55) (.node 61) (.node 68),
  .addlo (.node 59) (.node 63) (.node 70),
  .addhi (.node 59) (.node 63) (.node 70),
  .mulw (.lit 14042775128853446655) (.node 49),
  .mulhi (.node 73) (.lit 4891460686036598785),
  .mullo (.node 73) (.lit 4891460686036598785),
  .addlo (.node 49) (.node 75) (.lit 0),
  .addhi (.node 49) (.node 75) (.lit 0),
  .mulhi (.node 73) (.lit 2896914383306846353),
  .mullo (.node 73) (.lit 2896914383306846353),
  .addlo (.node 65) (.node 79) (.node 77),
  .addhi (.node 65) (.node 79) (.node 77),
  .mulhi (.node 73) (.lit 13281191951274694749),
  .mullo (.node 73) (.lit 13281191951274694749),
  .addlo (.node 67) (.node 83) (.node 81),
  .addhi (.node 67) (.node 83) (.node 81),
  .mulhi (.node 73) (.lit 3486998266802970665),
  .mullo (.node 73) (.lit 3486998266802970665),
  .addlo (.lit 0) (.node 87) (.node 85),
  .addhi (.lit 0) (.node 87) (.node 85),
  .addlo (.node 86) (.lit 0) (.node 89),
  .addhi (.node 86) (.lit 0) (.node 89),
  .addlo (.node 74) (.node 80) (.lit 0),
  .addhi (.node 74) (.node 80) (.lit 0),
  .addlo (.node 78) (.node 84) (.node 93),
  .addhi (.node 78) (.node 84) (.node 93),
  .addlo (.node 82) (.node 88) (.node 95),
  .addhi (.node 82) (.node 88) (.node 95),
  .addlo (.node 71) (.lit 0) (.node 97),
  .addhi (.node 71) (.lit 0) (.node 97),
  .addlo (.node 69) (.node 96) (.lit 0),
  .addhi (.node 69) (.node 96) (.lit 0),
  .addlo (.node 90) (.node 98) (.node 101),
  .addhi (.node 90) (.node 98) (.node 101),
  .mulhi (.cel 1 2) (.cel 2 0),
  .mullo (.cel 1 2) (.cel 2 0),
  .addlo (.node 105) (.node 92) (.lit 0),
  .addhi (.node 105) (.node 92) (.lit 0),
  .mulhi (.cel 1 2) (.cel 2 1),
  .mullo (.cel 1 2) (.cel 2 1),
  .addlo (.node 109) (.node 94) (.node 107),
  .addhi (.node 109) (.node 94) (.node 107),
  .mulhi (.cel 1 2) (.cel 2 2),
  .mullo (.cel 1 2) (.cel 2 2),
  .addlo (.node 113) (.node 100) (.node 111),
  .addhi (.node 113) (.node 100) (.node 111),
  .mulhi (.cel 1 2) (.cel 2 3),
  .mullo (.cel 1 2) (.cel 2 3),
  .addlo (.node 117) (.node 102) (.node 115),
  .addhi (.node 117) (.node 102) (.node 115),
  .addlo (.lit 0) (.lit 0) (.node 119),
  .addhi (.lit 0) (.lit 0) (.node 119),
  .addlo (.node 104) (.node 110) (.lit 0),
  .addhi (.node 104) (.node 110) (.lit 0),
  .addlo (.node 108) (.node 114) (.node 123),
  .addhi (.node 108) (.node 114) (.node 123),
  .addlo (.node 112) (.node 118) (.node 125),
  .addhi (.node 112) (.node 118) (.node 125),
  .addlo (.node 116) (.node 120) (.node 127),
  .addhi (.node 116) (.node 120) (.node 127),
  .mulw (.lit 14042775128853446655) (.node 106),
  .mulhi (.node 130) (.lit 4891460686036598785),
  .mullo (.node 130) (.lit 4891460686036598785),
  .addlo (.node 106) (.node 132) (.lit 0),
  .addhi (.node 106) (.node 132) (.lit 0),
  .mulhi (.node 130) (.lit 2896914383306846353),
  .mullo (.node 130) (.lit 2896914383306846353),
  .addlo (.node 122) (.node 136) (.node 134),
  .addhi (.node 122) (.node 136) (.node 134),
  .mulhi (.node 130) (.lit 13281191951274694749),
  .mullo (.node 130) (.lit 13281191951274694749),
  .addlo (.node 124) (.node 140) (.node 138),
  .addhi (.node 124) (.node 140) (.node 138),
  .mulhi (.node 130) (.lit 3486998266802970665),
  .mullo (.node 130) (.lit 3486998266802970665),
  .addlo (.lit 0) (.node 144) (.node 142),
  .addhi (.lit 0) (.node 144) (.node 142),
  .addlo (.node 143) (.lit 0) (.node 146),
  .addhi (.node 143) (.lit 0) (.node 146),
  .addlo (.node 131) (.node 137) (.lit 0),
  .addhi (.node 131) (.node 137) (.lit 0),
  .addlo (.node 135) (.node 141) (.node 150),
  .addhi (.node 135) (.node 141) (.node 150),
  .addlo (.node 139) (.node 145) (.node 152),
  .addhi (.node 139) (.node 145) (.node 152),
  .addlo (.node 128) (.lit 0) (.node 154),
  .addhi (.node 128) (.lit 0) (.node 154),
  .addlo (.node 126) (.node 153) (.lit 0),
  .addhi (.node 126) (.node 153) (.lit 0),
  .addlo (.node 147) (.node 155) (.node 158),
  .addhi (.node 147) (.node 155) (.node 158),
  .mulhi (.cel 1 3) (.cel 2 0),
  .mullo (.cel 1 3) (.cel 2 0),
  .addlo (.node 162) (.node 149) (.lit 0),
  .addhi (.node 162) (.node 149) (.lit 0),
  .mulhi (.cel 1 3) (.cel 2 1),
  .mullo (.cel 1 3) (.cel 2 1),
  .addlo (.node 166) (.node 151) (.node 164),
  .addhi (.node 166) (.node 151) (.node 164),
  .mulhi (.cel 1 3) (.cel 2 2),
  .mullo (.cel 1 3) (.cel 2 2),
  .addlo (.node 170) (.node 157) (.node 168),
  .addhi (.node 170) (.node 157) (.node 168),
  .mulhi (.cel 1 3) (.cel 2 3),
  .mullo (.cel 1 3) (.cel 2 3),
  .addlo (.node 174) (.node 159) (.node 172),
  .addhi (.node 174) (.node 159) (.node 172),
  .addlo (.lit 0) (.lit 0) (.node 176),
  .addhi (.lit 0) (.lit 0) (.node 176),
  .addlo (.node 161) (.node 167) (.lit 0),
  .addhi (.node 161) (.node 167) (.lit 0),
  .addlo (.node 165) (.node 171) (.node 180),
  .addhi (.node 165) (.node 171) (.node 180),
  .addlo (.node 169) (.node 175) (.node 182),
  .addhi (.node 169) (.node 175) (.node 182),
  .addlo (.node 173) (.node 177) (.node 184),
  .addhi (.node 173) (.node 177) (.node 184),
  .mulw (.lit 14042775128853446655) (.node 163),
  .mulhi (.node 187) (.lit 4891460686036598785),
  .mullo (.node 187) (.lit 4891460686036598785),
  .addlo (.node 163) (.node 189) (.lit 0),
  .addhi (.node 163) (.node 189) (.lit 0),
  .mulhi (.node 187) (.lit 2896914383306846353),
  .mullo (.node 187) (.lit 2896914383306846353),
  .addlo (.node 179) (.node 193) (.node 191),
  .addhi (.node 179) (.node 193) (.node 191),
  .mulhi (.node 187) (.lit 13281191951274694749),
  .mullo (.node 187) (.lit 13281191951274694749),
  .addlo (.node 181) (.node 197) (.node 195),
  .addhi (.node 181) (.node 197) (.node 195),
  .mulhi (.node 187) (.lit 3486998266802970665),
  .mullo (.node 187) (.lit 3486998266802970665),
  .addlo (.lit 0) (.node 201) (.node 199),
  .addhi (.lit 0) (.node 201) (.node 199),
  .addlo (.node 200) (.lit 0) (.node 203),
  .addhi (.node 200) (.lit 0) (.node 203),
  .addlo (.node 188) (.node 194) (.lit 0),
  .addhi (.node 188) (.node 194) (.lit 0),
  .addlo (.node 192) (.node 198) (.node 207),
  .addhi (.node 192) (.node 198) (.node 207),
  .addlo (.node 196) (.node 202) (.node 209),
  .addhi (.node 196) (.node 202) (.node 209),
  .addlo (.node 185) (.lit 0) (.node 211),
  .addhi (.node 185) (.lit 0) (.node 211),
  .addlo (.node 183) (.node 210) (.lit 0),
  .addhi (.node 183) (.node 210) (.lit 0),
  .addlo (.node 204) (.node 212) (.node 215),
  .addhi (.node 204) (.node 212) (.node 215)]

def subNodes : List Nd := [.sublo (.node 206) (.lit 4891460686036598785) (.lit 0),
  .subhi (.node 206) (.lit 4891460686036598785) (.lit 0),
  .sublo (.node 208) (.lit 2896914383306846353) (.node 219),
  .subhi (.node 208) (.lit 2896914383306846353) (.node 219),
  .sublo (.node 214) (.lit 13281191951274694749) (.node 221),
  .subhi (.node 214) (.lit 13281191951274694749) (.node 221),
  .sublo (.node 216) (.lit 3486998266802970665) (.node 223),
  .subhi (.node 216) (.lit 3486998266802970665) (.node 223)]


/-- The modulus. -/
def Q : Nat := 4891460686036598785 + 18446744073709551616 * 2896914383306846353 + 340282366920938463463374607431768211456 * 13281191951274694749 + 6277101735386680763835789423207666416102355444464034512896 * 3486998266802970665
def R : Nat := 115792089237316195423570985008687907853269984665640564039457584007913129639936

theorem num_eq (a0 a1 a2 a3 : Nat) : num [a0, a1, a2, a3] = a0 + 18446744073709551616 * a1 + 340282366920938463463374607431768211456 * a2 + 6277101735386680763835789423207666416102355444464034512896 * a3 := by
  simp only [num, W_eq]
  omega

theorem mul_spread (v y0 y1 y2 y3 : Nat) : v * (y0 + 18446744073709551616 * y1 + 340282366920938463463374607431768211456 * y2 + 6277101735386680763835789423207666416102355444464034512896 * y3) = (v * y0) + 18446744073709551616 * (v * y1) + 340282366920938463463374607431768211456 * (v * y2) + 6277101735386680763835789423207666416102355444464034512896 * (v * y3) := by
  simp only [Nat.mul_add, Nat.mul_left_comm v]

theorem mul_spread_r (v y0 y1 y2 y3 : Nat) : (y0 + 18446744073709551616 * y1 + 340282366920938463463374607431768211456 * y2 + 6277101735386680763835789423207666416102355444464034512896 * y3) * v = (y0 * v) + 18446744073709551616 * (y1 * v) + 340282366920938463463374607431768211456 * (y2 * v) + 6277101735386680763835789423207666416102355444464034512896 * (y3 * v) := by
  simp only [Nat.add_mul, Nat.mul_assoc]

theorem mont_low (t : Nat) : (t + ((14042775128853446655 * t % W) * 4891460686036598785) % W + 0) % W = 0 := by
  have h : (1 + 14042775128853446655 * 4891460686036598785) % W = 0 := by decide
  have e : t + 14042775128853446655 * t * 4891460686036598785 = t * (1 + 14042775128853446655 * 4891460686036598785) := by
    rw [Nat.mul_add, Nat.mul_one, Nat.mul_comm 14042775128853446655 t, Nat.mul_assoc]
  rw [Nat.add_zero, Nat.add_mod_mod, ← Nat.add_mod_mod, Nat.mod_mul_mod, Nat.add_mod_mod, e, Nat.mul_mod, h, Nat.mul_zero, Nat.zero_mod]

theorem round_lt {T v Y m T' : Nat} (hT : T < 2 * Q) (hv : v < W) (hm : m < W) (hY : Y < Q) :
    T + v * Y + m * Q < 2 * W * Q ∧ (W * T' = T + v * Y + m * Q → T' < 2 * Q) := by
  have h1 : v * Y ≤ (W - 1) * Q := Nat.mul_le_mul (by omega) (by omega)
  have h2 : m * Q ≤ (W - 1) * Q := Nat.mul_le_mul (by omega) (Nat.le_refl _)
  have hQ : 0 < Q := by omega
  rw [W_eq] at *
  constructor
  · omega
  · intro h; omega

set_option maxHeartbeats 2000000 in
set_option maxRecDepth 20000 in
/-- What the rounds compute. -/
theorem mul_rounds {E : Env} {ρ : Nat → Nat} {nodes : List Nd} (hn : nodes = mulNodes ∨ nodes = mulNodes ++ subNodes) (S0 : At E ρ nodes) (hb : ∀ i, i < 218 → ρ i < W) (hx : ∀ i, i < 4 → E.mv 1 i < W)
    (hY : E.mv 2 0 + 18446744073709551616 * E.mv 2 1 + 340282366920938463463374607431768211456 * E.mv 2 2 + 6277101735386680763835789423207666416102355444464034512896 * E.mv 2 3 < Q) :
    ∃ M, ρ 206 + 18446744073709551616 * ρ 208 + 340282366920938463463374607431768211456 * ρ 214 + 6277101735386680763835789423207666416102355444464034512896 * ρ 216 < 2 * Q ∧ (ρ 206 + 18446744073709551616 * ρ 208 + 340282366920938463463374607431768211456 * ρ 214 + 6277101735386680763835789423207666416102355444464034512896 * ρ 216) * R = (E.mv 1 0 + 18446744073709551616 * E.mv 1 1 + 340282366920938463463374607431768211456 * E.mv 1 2 + 6277101735386680763835789423207666416102355444464034512896 * E.mv 1 3) * (E.mv 2 0 + 18446744073709551616 * E.mv 2 1 + 340282366920938463463374607431768211456 * E.mv 2 2 + 6277101735386680763835789423207666416102355444464034512896 * E.mv 2 3) + M * Q := by
  have S : At E ρ mulNodes := fun i d h => by
    rcases hn with rfl | rfl
    · exact S0 i d h
    · exact S0 i d (by rw [List.getElem?_append_left (List.getElem?_eq_some_iff.1 h).1]; exact h)
  clear S0 hn
  have z0 : ρ 19 = 0 := by
    rw [S 19 _ rfl]
    have h1 : ρ 18 = ρ 16 * 4891460686036598785 % W := S 18 _ rfl
    have h2 : ρ 16 = 14042775128853446655 * ρ 1 % W := S 16 _ rfl
    show (ρ 1 + ρ 18 + 0) % W = 0
    rw [h1, h2]
    exact mont_low _
  have m0 : ρ 16 < W := hb 16 (by decide)
  have l0 := round_lt (T := 0) (T' := ρ 35 + 18446744073709551616 * ρ 37 + 340282366920938463463374607431768211456 * ρ 43 + 6277101735386680763835789423207666416102355444464034512896 * ρ 45) (by unfold Q; omega : 0 < 2 * Q) (hx 0 (by decide)) m0 hY
  have e0 : W * (ρ 35 + 18446744073709551616 * ρ 37 + 340282366920938463463374607431768211456 * ρ 43 + 6277101735386680763835789423207666416102355444464034512896 * ρ 45) = 0 + E.mv 1 0 * (E.mv 2 0 + 18446744073709551616 * E.mv 2 1 + 340282366920938463463374607431768211456 * E.mv 2 2 + 6277101735386680763835789423207666416102355444464034512896 * E.mv 2 3) + ρ 16 * Q := by
    have hlt := l0.1
    have hcap : 2 * W * Q ≤ 2135987035920910082395021706169552114602704522356652769947041607822219725780640550022962086936576 := by decide
    unfold Q at hlt ⊢
    rw [mul_spread, mul_spread] at hlt ⊢
    rw [W_eq]
    have := round4_first  (E.mv 1 0) (ρ 16) (E.mv 2 0) (E.mv 2 1) (E.mv 2 2) (E.mv 2 3) 4891460686036598785 2896914383306846353 13281191951274694749 3486998266802970665 (ρ 0) (ρ 1) (ρ 2) (ρ 3) (ρ 4) (ρ 5) (ρ 6) (ρ 7) (ρ 8) (ρ 9) (ρ 10) (ρ 11) (ρ 12) (ρ 13) (ρ 14) (ρ 15) (ρ 17) (ρ 18) (ρ 19) (ρ 20) (ρ 21) (ρ 22) (ρ 23) (ρ 24) (ρ 25) (ρ 26) (ρ 27) (ρ 28) (ρ 29) (ρ 30) (ρ 31) (ρ 32) (ρ 33) (ρ 34) (ρ 35) (ρ 36) (ρ 37) (ρ 38) (ρ 39) (ρ 40) (ρ 41) (ρ 42) (ρ 43) (ρ 44) (ρ 45) (ρ 46) z0 (S.mul 0 rfl rfl) (S.mul 2 rfl rfl) (S.mul 4 rfl rfl) (S.mul 6 rfl rfl) (S.add 8 rfl rfl) (S.add 10 rfl rfl) (S.add 12 rfl rfl) (S.add 14 rfl rfl) (S.mul 17 rfl rfl) (S.add 19 rfl rfl) (S.mul 21 rfl rfl) (S.add 23 rfl rfl) (S.mul 25 rfl rfl) (S.add 27 rfl rfl) (S.mul 29 rfl rfl) (S.add 31 rfl rfl) (S.add 33 rfl rfl) (S.add 35 rfl rfl) (S.add 37 rfl rfl) (S.add 39 rfl rfl) (S.add 41 rfl rfl) (S.add 43 rfl rfl) (S.add 45 rfl rfl) (by unfold Q at hcap; omega)
    omega
  have b0 := l0.2 e0
  have z1 : ρ 76 = 0 := by
    rw [S 76 _ rfl]
    have h1 : ρ 75 = ρ 73 * 4891460686036598785 % W := S 75 _ rfl
    have h2 : ρ 73 = 14042775128853446655 * ρ 49 % W := S 73 _ rfl
    show (ρ 49 + ρ 75 + 0) % W = 0
    rw [h1, h2]
    exact mont_low _
  have m1 : ρ 73 < W := hb 73 (by decide)
  have l1 := round_lt (T := ρ 35 + 18446744073709551616 * ρ 37 + 340282366920938463463374607431768211456 * ρ 43 + 6277101735386680763835789423207666416102355444464034512896 * ρ 45) (T' := ρ 92 + 18446744073709551616 * ρ 94 + 340282366920938463463374607431768211456 * ρ 100 + 6277101735386680763835789423207666416102355444464034512896 * ρ 102) b0 (hx 1 (by decide)) m1 hY
  have e1 : W * (ρ 92 + 18446744073709551616 * ρ 94 + 340282366920938463463374607431768211456 * ρ 100 + 6277101735386680763835789423207666416102355444464034512896 * ρ 102) = ρ 35 + 18446744073709551616 * ρ 37 + 340282366920938463463374607431768211456 * ρ 43 + 6277101735386680763835789423207666416102355444464034512896 * ρ 45 + E.mv 1 1 * (E.mv 2 0 + 18446744073709551616 * E.mv 2 1 + 340282366920938463463374607431768211456 * E.mv 2 2 + 6277101735386680763835789423207666416102355444464034512896 * E.mv 2 3) + ρ 73 * Q := by
    have hlt := l1.1
    have hcap : 2 * W * Q ≤ 2135987035920910082395021706169552114602704522356652769947041607822219725780640550022962086936576 := by decide
    unfold Q at hlt ⊢
    rw [mul_spread, mul_spread] at hlt ⊢
    rw [W_eq]
    have := round4_next (ρ 35) (ρ 37) (ρ 43) (ρ 45) (E.mv 1 1) (ρ 73) (E.mv 2 0) (E.mv 2 1) (E.mv 2 2) (E.mv 2 3) 4891460686036598785 2896914383306846353 13281191951274694749 3486998266802970665 (ρ 47) (ρ 48) (ρ 49) (ρ 50) (ρ 51) (ρ 52) (ρ 53) (ρ 54) (ρ 55) (ρ 56) (ρ 57) (ρ 58) (ρ 59) (ρ 60) (ρ 61) (ρ 62) (ρ 63) (ρ 64) (ρ 65) (ρ 66) (ρ 67) (ρ 68) (ρ 69) (ρ 70) (ρ 71) (ρ 72) (ρ 74) (ρ 75) (ρ 76) (ρ 77) (ρ 78) (ρ 79) (ρ 80) (ρ 81) (ρ 82) (ρ 83) (ρ 84) (ρ 85) (ρ 86) (ρ 87) (ρ 88) (ρ 89) (ρ 90) (ρ 91) (ρ 92) (ρ 93) (ρ 94) (ρ 95) (ρ 96) (ρ 97) (ρ 98) (ρ 99) (ρ 100) (ρ 101) (ρ 102) (ρ 103) z1 (S.mul 47 rfl rfl) (S.add 49 rfl rfl) (S.mul 51 rfl rfl) (S.add 53 rfl rfl) (S.mul 55 rfl rfl) (S.add 57 rfl rfl) (S.mul 59 rfl rfl) (S.add 61 rfl rfl) (S.add 63 rfl rfl) (S.add 65 rfl rfl) (S.add 67 rfl rfl) (S.add 69 rfl rfl) (S.add 71 rfl rfl) (S.mul 74 rfl rfl) (S.add 76 rfl rfl) (S.mul 78 rfl rfl) (S.add 80 rfl rfl) (S.mul 82 rfl rfl) (S.add 84 rfl rfl) (S.mul 86 rfl rfl) (S.add 88 rfl rfl) (S.add 90 rfl rfl) (S.add 92 rfl rfl) (S.add 94 rfl rfl) (S.add 96 rfl rfl) (S.add 98 rfl rfl) (S.add 100 rfl rfl) (S.add 102 rfl rfl) (by unfold Q at hcap; omega)
    omega
  have b1 := l1.2 e1
  have z2 : ρ 133 = 0 := by
    rw [S 133 _ rfl]
    have h1 : ρ 132 = ρ 130 * 4891460686036598785 % W := S 132 _ rfl
    have h2 : ρ 130 = 14042775128853446655 * ρ 106 % W := S 130 _ rfl
    show (ρ 106 + ρ 132 + 0) % W = 0
    rw [h1, h2]
    exact mont_low _
  have m2 : ρ 130 < W := hb 130 (by decide)
  have l2 := round_lt (T := ρ 92 + 18446744073709551616 * ρ 94 + 340282366920938463463374607431768211456 * ρ 100 + 6277101735386680763835789423207666416102355444464034512896 * ρ 102) (T' := ρ 149 + 18446744073709551616 * ρ 151 + 340282366920938463463374607431768211456 * ρ 157 + 6277101735386680763835789423207666416102355444464034512896 * ρ 159) b1 (hx 2 (by decide)) m2 hY
  have e2 : W * (ρ 149 + 18446744073709551616 * ρ 151 + 340282366920938463463374607431768211456 * ρ 157 + 6277101735386680763835789423207666416102355444464034512896 * ρ 159) = ρ 92 + 18446744073709551616 * ρ 94 + 340282366920938463463374607431768211456 * ρ 100 + 6277101735386680763835789423207666416102355444464034512896 * ρ 102 + E.mv 1 2 * (E.mv 2 0 + 18446744073709551616 * E.mv 2 1 + 340282366920938463463374607431768211456 * E.mv 2 2 + 6277101735386680763835789423207666416102355444464034512896 * E.mv 2 3) + ρ 130 * Q := by
    have hlt := l2.1
    have hcap : 2 * W * Q ≤ 2135987035920910082395021706169552114602704522356652769947041607822219725780640550022962086936576 := by decide
    unfold Q at hlt ⊢
    rw [mul_spread, mul_spread] at hlt ⊢
    rw [W_eq]
    have := round4_next (ρ 92) (ρ 94) (ρ 100) (ρ 102) (E.mv 1 2) (ρ 130) (E.mv 2 0) (E.mv 2 1) (E.mv 2 2) (E.mv 2 3) 4891460686036598785 2896914383306846353 13281191951274694749 3486998266802970665 (ρ 104) (ρ 105) (ρ 106) (ρ 107) (ρ 108) (ρ 109) (ρ 110) (ρ 111) (ρ 112) (ρ 113) (ρ 114) (ρ 115) (ρ 116) (ρ 117) (ρ 118) (ρ 119) (ρ 120) (ρ 121) (ρ 122) (ρ 123) (ρ 124) (ρ 125) (ρ 126) (ρ 127) (ρ 128) (ρ 129) (ρ 131) (ρ 132) (ρ 133) (ρ 134) (ρ 135) (ρ 136) (ρ 137) (ρ 138) (ρ 139) (ρ 140) (ρ 141) (ρ 142) (ρ 143) (ρ 144) (ρ 145) (ρ 146) (ρ 147) (ρ 148) (ρ 149) (ρ 150) (ρ 151) (ρ 152) (ρ 153) (ρ 154) (ρ 155) (ρ 156) (ρ 157) (ρ 158) (ρ 159) (ρ 160) z2 (S.mul 104 rfl rfl) (S.add 106 rfl rfl) (S.mul 108 rfl rfl) (S.add 110 rfl rfl) (S.mul 112 rfl rfl) (S.add 114 rfl rfl) (S.mul 116 rfl rfl) (S.add 118 rfl rfl) (S.add 120 rfl rfl) (S.add 122 rfl rfl) (S.add 124 rfl rfl) (S.add 126 rfl rfl) (S.add 128 rfl rfl) (S.mul 131 rfl rfl) (S.add 133 rfl rfl) (S.mul 135 rfl rfl) (S.add 137 rfl rfl) (S.mul 139 rfl rfl) (S.add 141 rfl rfl) (S.mul 143 rfl rfl) (S.add 145 rfl rfl) (S.add 147 rfl rfl) (S.add 149 rfl rfl) (S.add 151 rfl rfl) (S.add 153 rfl rfl) (S.add 155 rfl rfl) (S.add 157 rfl rfl) (S.add 159 rfl rfl) (by unfold Q at hcap; omega)
    omega
  have b2 := l2.2 e2
  have z3 : ρ 190 = 0 := by
    rw [S 190 _ rfl]
    have h1 : ρ 189 = ρ 187 * 4891460686036598785 % W := S 189 _ rfl
    have h2 : ρ 187 = 14042775128853446655 * ρ 163 % W := S 187 _ rfl
    show (ρ 163 + ρ 189 + 0) % W = 0
    rw [h1, h2]
    exact mont_low _
  have m3 : ρ 187 < W := hb 187 (by decide)
  have l3 := round_lt (T := ρ 149 + 18446744073709551616 * ρ 151 + 340282366920938463463374607431768211456 * ρ 157 + 6277101735386680763835789423207666416102355444464034512896 * ρ 159) (T' := ρ 206 + 18446744073709551616 * ρ 208 + 340282366920938463463374607431768211456 * ρ 214 + 6277101735386680763835789423207666416102355444464034512896 * ρ 216) b2 (hx 3 (by decide)) m3 hY
  have e3 : W * (ρ 206 + 18446744073709551616 * ρ 208 + 340282366920938463463374607431768211456 * ρ 214 + 6277101735386680763835789423207666416102355444464034512896 * ρ 216) = ρ 149 + 18446744073709551616 * ρ 151 + 340282366920938463463374607431768211456 * ρ 157 + 6277101735386680763835789423207666416102355444464034512896 * ρ 159 + E.mv 1 3 * (E.mv 2 0 + 18446744073709551616 * E.mv 2 1 + 340282366920938463463374607431768211456 * E.mv 2 2 + 6277101735386680763835789423207666416102355444464034512896 * E.mv 2 3) + ρ 187 * Q := by
    have hlt := l3.1
    have hcap : 2 * W * Q ≤ 2135987035920910082395021706169552114602704522356652769947041607822219725780640550022962086936576 := by decide
    unfold Q at hlt ⊢
    rw [mul_spread, mul_spread] at hlt ⊢
    rw [W_eq]
    have := round4_next (ρ 149) (ρ 151) (ρ 157) (ρ 159) (E.mv 1 3) (ρ 187) (E.mv 2 0) (E.mv 2 1) (E.mv 2 2) (E.mv 2 3) 4891460686036598785 2896914383306846353 13281191951274694749 3486998266802970665 (ρ 161) (ρ 162) (ρ 163) (ρ 164) (ρ 165) (ρ 166) (ρ 167) (ρ 168) (ρ 169) (ρ 170) (ρ 171) (ρ 172) (ρ 173) (ρ 174) (ρ 175) (ρ 176) (ρ 177) (ρ 178) (ρ 179) (ρ 180) (ρ 181) (ρ 182) (ρ 183) (ρ 184) (ρ 185) (ρ 186) (ρ 188) (ρ 189) (ρ 190) (ρ 191) (ρ 192) (ρ 193) (ρ 194) (ρ 195) (ρ 196) (ρ 197) (ρ 198) (ρ 199) (ρ 200) (ρ 201) (ρ 202) (ρ 203) (ρ 204) (ρ 205) (ρ 206) (ρ 207) (ρ 208) (ρ 209) (ρ 210) (ρ 211) (ρ 212) (ρ 213) (ρ 214) (ρ 215) (ρ 216) (ρ 217) z3 (S.mul 161 rfl rfl) (S.add 163 rfl rfl) (S.mul 165 rfl rfl) (S.add 167 rfl rfl) (S.mul 169 rfl rfl) (S.add 171 rfl rfl) (S.mul 173 rfl rfl) (S.add 175 rfl rfl) (S.add 177 rfl rfl) (S.add 179 rfl rfl) (S.add 181 rfl rfl) (S.add 183 rfl rfl) (S.add 185 rfl rfl) (S.mul 188 rfl rfl) (S.add 190 rfl rfl) (S.mul 192 rfl rfl) (S.add 194 rfl rfl) (S.mul 196 rfl rfl) (S.add 198 rfl rfl) (S.mul 200 rfl rfl) (S.add 202 rfl rfl) (S.add 204 rfl rfl) (S.add 206 rfl rfl) (S.add 208 rfl rfl) (S.add 210 rfl rfl) (S.add 212 rfl rfl) (S.add 214 rfl rfl) (S.add 216 rfl rfl) (by unfold Q at hcap; omega)
    omega
  have b3 := l3.2 e3
  refine ⟨ρ 16 + 18446744073709551616 * ρ 73 + 340282366920938463463374607431768211456 * ρ 130 + 6277101735386680763835789423207666416102355444464034512896 * ρ 187, b3, ?_⟩
  generalize hYe : E.mv 2 0 + 18446744073709551616 * E.mv 2 1 + 340282366920938463463374607431768211456 * E.mv 2 2 + 6277101735386680763835789423207666416102355444464034512896 * E.mv 2 3 = Y at *
  clear S hb hx
  rw [W_eq] at *
  unfold R
  rw [mul_spread_r, mul_spread_r, mul_spread_r]
  omega

end Go.Proofs.Yteohenebjcbliaa

