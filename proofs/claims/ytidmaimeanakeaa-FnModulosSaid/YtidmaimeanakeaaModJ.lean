/- runtime.Modulo, whatever the two values. (Printed by gen3.py.) -/
import Derived.Test.YtidmaimeanakeaaMd0
import Derived.Test.YtidmaimeanakeaaMd1
import Derived.Test.YtidmaimeanakeaaMd2
import Derived.Test.YtidmaimeanakeaaMd3
import Derived.Test.YtidmaimeanakeaaMd4
import Derived.Test.YtidmaimeanakeaaMdN
set_option linter.unusedSimpArgs false
set_option linter.unusedVariables false
namespace Go.Proofs.Ytidmaimeanakeaa.Num
open Go.RowKit
theorem modulo_some (w : World) (n m : Int) (v1 v2 : Value) (h1 : Dy (some n) v1) (h2 : Dy (some m) v2) : Calls Try.prog 11 #[v1, v2] w (Rem n m w) := by
  cases h1 with
  | i64 _ a0 a1 =>
    cases h2 with
    | i64 _ b0 b1 => exact mod_i64_i64 w n m a0 a1 b0 b1
    | i8 _ b0 b1 => exact mod_i64_i8 w n m a0 a1 b0 b1
    | i16 _ b0 b1 => exact mod_i64_i16 w n m a0 a1 b0 b1
    | i32 _ b0 b1 => exact mod_i64_i32 w n m a0 a1 b0 b1
    | l64 _ b0 b1 => exact mod_i64_l64 w n m a0 a1 b0 b1
    | u64 _ b0 b1 => exact mod_i64_u64 w n m a0 a1 b0 b1
    | u8 _ b0 b1 => exact mod_i64_u8 w n m a0 a1 b0 b1
    | u16 _ b0 b1 => exact mod_i64_u16 w n m a0 a1 b0 b1
    | u32 _ b0 b1 => exact mod_i64_u32 w n m a0 a1 b0 b1
    | m64 _ b0 b1 => exact mod_i64_m64 w n m a0 a1 b0 b1
  | i8 _ a0 a1 =>
    cases h2 with
    | i64 _ b0 b1 => exact mod_i8_i64 w n m a0 a1 b0 b1
    | i8 _ b0 b1 => exact mod_i8_i8 w n m a0 a1 b0 b1
    | i16 _ b0 b1 => exact mod_i8_i16 w n m a0 a1 b0 b1
    | i32 _ b0 b1 => exact mod_i8_i32 w n m a0 a1 b0 b1
    | l64 _ b0 b1 => exact mod_i8_l64 w n m a0 a1 b0 b1
    | u64 _ b0 b1 => exact mod_i8_u64 w n m a0 a1 b0 b1
    | u8 _ b0 b1 => exact mod_i8_u8 w n m a0 a1 b0 b1
    | u16 _ b0 b1 => exact mod_i8_u16 w n m a0 a1 b0 b1
    | u32 _ b0 b1 => exact mod_i8_u32 w n m a0 a1 b0 b1
    | m64 _ b0 b1 => exact mod_i8_m64 w n m a0 a1 b0 b1
  | i16 _ a0 a1 =>
    cases h2 with
    | i64 _ b0 b1 => exact mod_i16_i64 w n m a0 a1 b0 b1
    | i8 _ b0 b1 => exact mod_i16_i8 w n m a0 a1 b0 b1
    | i16 _ b0 b1 => exact mod_i16_i16 w n m a0 a1 b0 b1
    | i32 _ b0 b1 => exact mod_i16_i32 w n m a0 a1 b0 b1
    | l64 _ b0 b1 => exact mod_i16_l64 w n m a0 a1 b0 b1
    | u64 _ b0 b1 => exact mod_i16_u64 w n m a0 a1 b0 b1
    | u8 _ b0 b1 => exact mod_i16_u8 w n m a0 a1 b0 b1
    | u16 _ b0 b1 => exact mod_i16_u16 w n m a0 a1 b0 b1
    | u32 _ b0 b1 => exact mod_i16_u32 w n m a0 a1 b0 b1
    | m64 _ b0 b1 => exact mod_i16_m64 w n m a0 a1 b0 b1
  | i32 _ a0 a1 =>
    cases h2 with
    | i64 _ b0 b1 => exact mod_i32_i64 w n m a0 a1 b0 b1
    | i8 _ b0 b1 => exact mod_i32_i8 w n m a0 a1 b0 b1
    | i16 _ b0 b1 => exact mod_i32_i16 w n m a0 a1 b0 b1
    | i32 _ b0 b1 => exact mod_i32_i32 w n m a0 a1 b0 b1
    | l64 _ b0 b1 => exact mod_i32_l64 w n m a0 a1 b0 b1
    | u64 _ b0 b1 => exact mod_i32_u64 w n m a0 a1 b0 b1
    | u8 _ b0 b1 => exact mod_i32_u8 w n m a0 a1 b0 b1
    | u16 _ b0 b1 => exact mod_i32_u16 w n m a0 a1 b0 b1
    | u32 _ b0 b1 => exact mod_i32_u32 w n m a0 a1 b0 b1
    | m64 _ b0 b1 => exact mod_i32_m64 w n m a0 a1 b0 b1
  | l64 _ a0 a1 =>
    cases h2 with
    | i64 _ b0 b1 => exact mod_l64_i64 w n m a0 a1 b0 b1
    | i8 _ b0 b1 => exact mod_l64_i8 w n m a0 a1 b0 b1
    | i16 _ b0 b1 => exact mod_l64_i16 w n m a0 a1 b0 b1
    | i32 _ b0 b1 => exact mod_l64_i32 w n m a0 a1 b0 b1
    | l64 _ b0 b1 => exact mod_l64_l64 w n m a0 a1 b0 b1
    | u64 _ b0 b1 => exact mod_l64_u64 w n m a0 a1 b0 b1
    | u8 _ b0 b1 => exact mod_l64_u8 w n m a0 a1 b0 b1
    | u16 _ b0 b1 => exact mod_l64_u16 w n m a0 a1 b0 b1
    | u32 _ b0 b1 => exact mod_l64_u32 w n m a0 a1 b0 b1
    | m64 _ b0 b1 => exact mod_l64_m64 w n m a0 a1 b0 b1
  | u64 _ a0 a1 =>
    cases h2 with
    | i64 _ b0 b1 => exact mod_u64_i64 w n m a0 a1 b0 b1
    | i8 _ b0 b1 => exact mod_u64_i8 w n m a0 a1 b0 b1
    | i16 _ b0 b1 => exact mod_u64_i16 w n m a0 a1 b0 b1
    | i32 _ b0 b1 => exact mod_u64_i32 w n m a0 a1 b0 b1
    | l64 _ b0 b1 => exact mod_u64_l64 w n m a0 a1 b0 b1
    | u64 _ b0 b1 => exact mod_u64_u64 w n m a0 a1 b0 b1
    | u8 _ b0 b1 => exact mod_u64_u8 w n m a0 a1 b0 b1
    | u16 _ b0 b1 => exact mod_u64_u16 w n m a0 a1 b0 b1
    | u32 _ b0 b1 => exact mod_u64_u32 w n m a0 a1 b0 b1
    | m64 _ b0 b1 => exact mod_u64_m64 w n m a0 a1 b0 b1
  | u8 _ a0 a1 =>
    cases h2 with
    | i64 _ b0 b1 => exact mod_u8_i64 w n m a0 a1 b0 b1
    | i8 _ b0 b1 => exact mod_u8_i8 w n m a0 a1 b0 b1
    | i16 _ b0 b1 => exact mod_u8_i16 w n m a0 a1 b0 b1
    | i32 _ b0 b1 => exact mod_u8_i32 w n m a0 a1 b0 b1
    | l64 _ b0 b1 => exact mod_u8_l64 w n m a0 a1 b0 b1
    | u64 _ b0 b1 => exact mod_u8_u64 w n m a0 a1 b0 b1
    | u8 _ b0 b1 => exact mod_u8_u8 w n m a0 a1 b0 b1
    | u16 _ b0 b1 => exact mod_u8_u16 w n m a0 a1 b0 b1
    | u32 _ b0 b1 => exact mod_u8_u32 w n m a0 a1 b0 b1
    | m64 _ b0 b1 => exact mod_u8_m64 w n m a0 a1 b0 b1
  | u16 _ a0 a1 =>
    cases h2 with
    | i64 _ b0 b1 => exact mod_u16_i64 w n m a0 a1 b0 b1
    | i8 _ b0 b1 => exact mod_u16_i8 w n m a0 a1 b0 b1
    | i16 _ b0 b1 => exact mod_u16_i16 w n m a0 a1 b0 b1
    | i32 _ b0 b1 => exact mod_u16_i32 w n m a0 a1 b0 b1
    | l64 _ b0 b1 => exact mod_u16_l64 w n m a0 a1 b0 b1
    | u64 _ b0 b1 => exact mod_u16_u64 w n m a0 a1 b0 b1
    | u8 _ b0 b1 => exact mod_u16_u8 w n m a0 a1 b0 b1
    | u16 _ b0 b1 => exact mod_u16_u16 w n m a0 a1 b0 b1
    | u32 _ b0 b1 => exact mod_u16_u32 w n m a0 a1 b0 b1
    | m64 _ b0 b1 => exact mod_u16_m64 w n m a0 a1 b0 b1
  | u32 _ a0 a1 =>
    cases h2 with
    | i64 _ b0 b1 => exact mod_u32_i64 w n m a0 a1 b0 b1
    | i8 _ b0 b1 => exact mod_u32_i8 w n m a0 a1 b0 b1
    | i16 _ b0 b1 => exact mod_u32_i16 w n m a0 a1 b0 b1
    | i32 _ b0 b1 => exact mod_u32_i32 w n m a0 a1 b0 b1
    | l64 _ b0 b1 => exact mod_u32_l64 w n m a0 a1 b0 b1
    | u64 _ b0 b1 => exact mod_u32_u64 w n m a0 a1 b0 b1
    | u8 _ b0 b1 => exact mod_u32_u8 w n m a0 a1 b0 b1
    | u16 _ b0 b1 => exact mod_u32_u16 w n m a0 a1 b0 b1
    | u32 _ b0 b1 => exact mod_u32_u32 w n m a0 a1 b0 b1
    | m64 _ b0 b1 => exact mod_u32_m64 w n m a0 a1 b0 b1
  | m64 _ a0 a1 =>
    cases h2 with
    | i64 _ b0 b1 => exact mod_m64_i64 w n m a0 a1 b0 b1
    | i8 _ b0 b1 => exact mod_m64_i8 w n m a0 a1 b0 b1
    | i16 _ b0 b1 => exact mod_m64_i16 w n m a0 a1 b0 b1
    | i32 _ b0 b1 => exact mod_m64_i32 w n m a0 a1 b0 b1
    | l64 _ b0 b1 => exact mod_m64_l64 w n m a0 a1 b0 b1
    | u64 _ b0 b1 => exact mod_m64_u64 w n m a0 a1 b0 b1
    | u8 _ b0 b1 => exact mod_m64_u8 w n m a0 a1 b0 b1
    | u16 _ b0 b1 => exact mod_m64_u16 w n m a0 a1 b0 b1
    | u32 _ b0 b1 => exact mod_m64_u32 w n m a0 a1 b0 b1
    | m64 _ b0 b1 => exact mod_m64_m64 w n m a0 a1 b0 b1
theorem modulo_half (w : World) (n : Int) (v1 v2 : Value) (h1 : Dy (some n) v1) (h2 : Dy none v2) : Calls Try.prog 11 #[v1, v2] w (Pan w) := by
  cases h1 with
  | i64 _ a0 a1 =>
    cases h2 with
    | f32 g => exact mod_i64_f32 w n a0 a1 g
    | f64 g => exact mod_i64_f64 w n a0 a1 g
    | text s => exact mod_i64_text w n a0 a1 s
    | truth b => exact mod_i64_truth w n a0 a1 b
    | nil  => exact mod_i64_nil w n a0 a1 
  | i8 _ a0 a1 =>
    cases h2 with
    | f32 g => exact mod_i8_f32 w n a0 a1 g
    | f64 g => exact mod_i8_f64 w n a0 a1 g
    | text s => exact mod_i8_text w n a0 a1 s
    | truth b => exact mod_i8_truth w n a0 a1 b
    | nil  => exact mod_i8_nil w n a0 a1 
  | i16 _ a0 a1 =>
    cases h2 with
    | f32 g => exact mod_i16_f32 w n a0 a1 g
    | f64 g => exact mod_i16_f64 w n a0 a1 g
    | text s => exact mod_i16_text w n a0 a1 s
    | truth b => exact mod_i16_truth w n a0 a1 b
    | nil  => exact mod_i16_nil w n a0 a1 
  | i32 _ a0 a1 =>
    cases h2 with
    | f32 g => exact mod_i32_f32 w n a0 a1 g
    | f64 g => exact mod_i32_f64 w n a0 a1 g
    | text s => exact mod_i32_text w n a0 a1 s
    | truth b => exact mod_i32_truth w n a0 a1 b
    | nil  => exact mod_i32_nil w n a0 a1 
  | l64 _ a0 a1 =>
    cases h2 with
    | f32 g => exact mod_l64_f32 w n a0 a1 g
    | f64 g => exact mod_l64_f64 w n a0 a1 g
    | text s => exact mod_l64_text w n a0 a1 s
    | truth b => exact mod_l64_truth w n a0 a1 b
    | nil  => exact mod_l64_nil w n a0 a1 
  | u64 _ a0 a1 =>
    cases h2 with
    | f32 g => exact mod_u64_f32 w n a0 a1 g
    | f64 g => exact mod_u64_f64 w n a0 a1 g
    | text s => exact mod_u64_text w n a0 a1 s
    | truth b => exact mod_u64_truth w n a0 a1 b
    | nil  => exact mod_u64_nil w n a0 a1 
  | u8 _ a0 a1 =>
    cases h2 with
    | f32 g => exact mod_u8_f32 w n a0 a1 g
    | f64 g => exact mod_u8_f64 w n a0 a1 g
    | text s => exact mod_u8_text w n a0 a1 s
    | truth b => exact mod_u8_truth w n a0 a1 b
    | nil  => exact mod_u8_nil w n a0 a1 
  | u16 _ a0 a1 =>
    cases h2 with
    | f32 g => exact mod_u16_f32 w n a0 a1 g
    | f64 g => exact mod_u16_f64 w n a0 a1 g
    | text s => exact mod_u16_text w n a0 a1 s
    | truth b => exact mod_u16_truth w n a0 a1 b
    | nil  => exact mod_u16_nil w n a0 a1 
  | u32 _ a0 a1 =>
    cases h2 with
    | f32 g => exact mod_u32_f32 w n a0 a1 g
    | f64 g => exact mod_u32_f64 w n a0 a1 g
    | text s => exact mod_u32_text w n a0 a1 s
    | truth b => exact mod_u32_truth w n a0 a1 b
    | nil  => exact mod_u32_nil w n a0 a1 
  | m64 _ a0 a1 =>
    cases h2 with
    | f32 g => exact mod_m64_f32 w n a0 a1 g
    | f64 g => exact mod_m64_f64 w n a0 a1 g
    | text s => exact mod_m64_text w n a0 a1 s
    | truth b => exact mod_m64_truth w n a0 a1 b
    | nil  => exact mod_m64_nil w n a0 a1 
theorem modulo_none (w : World) (v1 v2 : Value) (h1 : Dy none v1) : Calls Try.prog 11 #[v1, v2] w (Pan w) := by
  cases h1 with
  | f32 g => exact mod_f32 w v2 g
  | f64 g => exact mod_f64 w v2 g
  | text s => exact mod_text w v2 s
  | truth b => exact mod_truth w v2 b
  | nil  => exact mod_nil w v2 
end Go.Proofs.Ytidmaimeanakeaa.Num
